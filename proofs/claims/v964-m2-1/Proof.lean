import JvmDerived
import JvmDerived.Pilot.@@N@@Statement
import JvmDerived.Pilot.@@N@@Code
set_option linter.unusedVariables false
set_option linter.unusedSimpArgs false
namespace Jvm.OwnW
open Sem ClassFile Op Lib Jvm.Stand Jvm.Free Jvm.LawKit Jvm.RoadKit
/-- what a walk knows of its method and of the run -/
def Cx (p : Program) (s : State) (m : MethodId) (meth : Method) (c : Code) (Z : State) (y : MethodName) (bs : ByteArray) (ml : Nat) (ret : Option FieldType) : Prop :=
  p.tables.exec = Jvm.exec ∧ c.code = bs ∧ c.maxLocals = ml ∧ s.vm.findClass y.cls = some m.cls ∧ meth.name = y.name ∧ meth.sig.returnType = ret ∧ meth.locks = false ∧ Z.Warmed39 s.vm
/-- from the state u the body comes to its end, returns v and leaves the heap as Q says; it wrote cells from n0 on alone -/
def Runs (p : Program) (e : Env) (below : List Frame) (s : State) (R : Room) (n0 : Nat) (Q : Option Value → Heap → Prop) (u : State) : Prop :=
  ∃ s₂ o, Steps p.tables e below u s₂ ∧ s₂.status = .running ∧ Ended s₂ below o ∧ ∃ v Ls, o = .returned v ∧ (Q v s₂.heap ∧ Fr n0 Ls) ∧ FrameEnd s o s₂ Ls R.cells R.slots
/-- from pc with these locals and this stack, the heap being h, k cells and n slots made so far: the body ends as Q says -/
def Go (l : Launch) (Z : State) (R : Room) (y : MethodName) (bs : ByteArray) (ml : Nat) (ret : Option FieldType) (n0 : Nat) (Q : Option Value → Heap → Prop) (h : Heap) (k n : Nat) (pc : Nat) (L : Array Slot) (St : List Value) : Prop :=
  ∀ (p : Program) (e : Env) (s : State) (m : MethodId) (args : Array Value) (below : List Frame) (meth : Method) (c : Code) (T : State) (locs : List Loc),
    Cx p s m meth c Z y bs ml ret → Stand p l e R s m args below meth c T locs k n → Fr n0 locs → T.heap = h → Runs p e below s R n0 Q (T.setTop (mkF m pc L St))
/-- it returns r, the heap as it was -/
def Ret (r : Option Value) (h0 : Heap) : Option Value → Heap → Prop := fun v h => v = r ∧ h0 = h
/-- the law says 1 -/
def One1 : Option Value → Heap → Prop := fun v _ => v = some (.int 1)
/-- the body's contract -/
def Con (l : Launch) (Z : State) (R : Room) (y : MethodName) (bs : ByteArray) (ml : Nat) (ret : Option FieldType) (n0 : Nat) (as' : Array Value) (h : Heap) (Q : Option Value → Heap → Prop) : Prop :=
  ∀ ws, MetFree l y (head1 (Jvm.Cond.code y bs ml ret :: ws) R) (fun a U => a = as' ∧ Z.Warmed39 U.vm ∧ U.heap = h) (fun _ _ _ _ _ => True) (fun _ U o U' => ∃ v Ls, o = .returned v ∧ (Q v U'.heap ∧ Fr n0 Ls) ∧ FrameEnd U o U' Ls R.cells R.slots)
theorem Runs.thru {p : Program} {e : Env} {below : List Frame} {s : State} {R : Room} {n0 : Nat} {Q : Option Value → Heap → Prop} {u u' : State} (q : Runs p e below s R n0 Q u') (st : ∀ t, Steps p.tables e below u' t → Steps p.tables e below u t) : Runs p e below s R n0 Q u := by
  obtain ⟨s₂, o, h1, r⟩ := q
  exact ⟨s₂, o, st _ h1, r⟩
/-- what stood in h0 stands in h -/
theorem ext_refl (h : Heap) : Ext h h := ⟨Nat.le_refl _, fun _ _ q => q⟩
theorem ext_trans {h0 h h' : Heap} (X : Ext h0 h) (E : Ext h h') : Ext h0 h' := ⟨Nat.le_trans X.1 E.1, fun a c q => E.2 a c (X.2 a c q)⟩
theorem ext_keep {h0 h h' : Heap} {ws : List Addr} (X : Ext h0 h) (K : Keep h h' ws) (q : ∀ x ∈ ws, h0.size ≤ x) : Ext h0 h' :=
  ⟨Nat.le_trans X.1 K.1, fun a c r => K.2.1 a c (X.2 a c r) fun z => absurd (Array.getElem?_eq_some_iff.mp r).1 (Nat.not_lt.mpr (q a z))⟩
theorem ext_wr {h0 h h' : Heap} {a : Addr} {sl : Nat} {v : Value} (X : Ext h0 h) (W : Wr h h' a sl v) (q : h0.size ≤ a) : Ext h0 h' := ext_keep X (Keep.of_wr W) (allS q all0)
theorem exa_ns {Z : State} {h : Heap} {a : Addr} {C : String} (E : Exa Z h a C) : ∀ c : Cell, h[a]? = some c → c.vm.isStatics = false := fun c q => by
  obtain ⟨cell, k, h1, -, -, h4, -⟩ := E
  cases h1.symm.trans q
  exact h4
theorem sta_keep {Z : State} {h h' : Heap} {C n d : String} {w : Value} {ws : List Addr} (F : Sta Z h C n d w) (K : Keep h h' ws) (q : ∀ x ∈ ws, ∀ c : Cell, h[x]? = some c → c.vm.isStatics = false) : Sta Z h' C n d w := by
  obtain ⟨cf, i, k, f, st, cell, h1, h2, h3, h4, h5, h6, h7⟩ := F
  exact ⟨cf, i, k, f, st, cell, h1, h2, h3, h4, K.2.1 st cell h5 (fun m => by have r := q st m cell h5; rw [h6] at r; cases r), h6, h7⟩
theorem eqI {args : Array Value} {first s : State} {o : Option Outcome} {idx : List Nat} {a b : Term} {k : Int32} (h : (Cond.eq a b).value args first o s idx = some true) (hb : b.eval args first o idx s = some (.int k)) : a.eval args first o idx s = some (.int k) := by
  obtain ⟨x, z, e1, e2, k1, k2⟩ := cmp_v (Or.inl h)
  cases hb.symm.trans e2
  obtain ⟨w, rfl⟩ := k2
  have h' := h
  simp only [Cond.value, e1, hb, Option.some.injEq, decide_eq_true_eq] at h'
  rw [e1, h']
theorem eqJ {args : Array Value} {first s : State} {o : Option Outcome} {idx : List Nat} {a b : Term} {k : Int64} (h : (Cond.eq a b).value args first o s idx = some true) (hb : b.eval args first o idx s = some (.long k)) : a.eval args first o idx s = some (.long k) := by
  obtain ⟨x, z, e1, e2, k1, k2⟩ := cmp_v (Or.inl h)
  cases hb.symm.trans e2
  obtain ⟨w, rfl⟩ := k2
  have h' := h
  simp only [Cond.value, e1, hb, Option.some.injEq, decide_eq_true_eq] at h'
  rw [e1, h']
theorem arrClass {Z : State} {a0 : Array Value} {C : String} (w : (Cond.arrayOver (.object C)).before a0 Z = true) : (Cond.arrayClass (.object C)).before a0 Z = true := by
  obtain ⟨comp, c, k, -, -, h3, h4, h5⟩ := Cond.arrayOver_spec w
  simp [Cond.before, Cond.holds, Cond.value, h5, h3, h4]
theorem ovrOf {Z : State} {a0 : Array Value} {C : String} {cI : ClassId} (w : (Cond.arrayOver (.object C)).before a0 Z = true) (h : Z.vm.findClass (FieldType.array (.object C)).toString = some cI) : Ovr Z cI C := by
  obtain ⟨comp, c, k, h1, -, h3, h4, h5⟩ := Cond.arrayOver_spec w
  have e : (FieldType.array (.object C)).toString = "[" ++ (FieldType.object C).toString := rfl
  rw [e, h5] at h
  cases h
  exact ⟨k, comp, h3, h4, h1⟩
section Laws
variable {l : Launch} {Z : State} {R : Room} {y : MethodName} {bs : ByteArray} {ml : Nat} {ret : Option FieldType} {n0 : Nat} {Q : Option Value → Heap → Prop} {h : Heap} {k n : Nat} {k' n' : Nat} {pc pc' : Nat} {L L' : Array Slot} {St : List Value} {a0 : Array Value}
theorem Con.of {as' : Array Value} (pn : plainFor y = true) (ef : ∀ m, entryFrame m as' ml = mkF m 0 L []) (b : Go l Z R y bs ml ret n0 Q h 0 0 0 L []) : Con l Z R y bs ml ret n0 as' h Q := by
  intro ws
  refine MetFree.of_bodySF pn hisR ?_
  intro p e s m args below meth c s₁ Bd hml0 hP hK
  obtain ⟨rfl, hZ, hh⟩ := hP
  have X0 : Stand p l e R s m args below meth c s₁ [] 0 0 := Stand.of_body Bd
  have e0 : s₁.heap = h := by rw [← hh, Bd.state]; rfl
  have q := b p e s m args below meth c s₁ [] ⟨Bd.exec, Bd.bytes, hml0, findClass_of_methodNamed Bd.named, (name_of_methodNamed Bd.named Bd.method).1, Bd.returns, Bd.notSynchronized, hZ⟩ X0 (Fr.nil n0) e0
  rw [← ef m] at q
  exact q
theorem Con.mono {as' : Array Value} {Q' : Option Value → Heap → Prop} (q : Con l Z R y bs ml ret n0 as' h Q) (i : ∀ v h', Q v h' → Q' v h') : Con l Z R y bs ml ret n0 as' h Q' := by
  intro ws p e ha hc hk s m args below hf happ hP hK
  obtain ⟨s₂, o, h1, h2, h3, v, Ls, h4, ⟨h5, h6⟩, h7⟩ := q ws p e ha hc hk s m args below hf happ hP hK
  exact ⟨s₂, o, h1, h2, h3, v, Ls, h4, ⟨i _ _ h5, h6⟩, h7⟩
/-- the same, the heap's name turned -/
theorem Go.cast {h' : Heap} (e : h' = h) (q : Go l Z R y bs ml ret n0 Q h' k n pc L St) : Go l Z R y bs ml ret n0 Q h k n pc L St := e ▸ q
theorem Go.more {k' n' : Nat} (hk : k ≤ k') (hn : n ≤ n') (q : Go l Z R y bs ml ret n0 Q h k' n' pc L St) : Go l Z R y bs ml ret n0 Q h k n pc L St := fun p e s m args below meth c T locs C X N eT => q p e s m args below meth c T locs C (X.mono hk hn) N eT
theorem Go.frm {St' : List Value} (q : Go l Z R y bs ml ret n0 Q h k n pc L' St') (e1 : L = L') (e2 : St = St') : Go l Z R y bs ml ret n0 Q h k n pc L St := by subst e1 e2; exact q

theorem iload {i : Nat} {v : Int32} (hd : decode bs pc = .ok (.iload i, 2)) (hl : L[i]? = some (.val (.int v))) (hp : pc + 2 = pc') (kt : Go l Z R y bs ml ret n0 Q h k n pc' L (.int v :: St)) : Go l Z R y bs ml ret n0 Q h k n pc L St := by
  subst hp
  intro p e s m args below meth c T locs C X N eT
  exact (kt p e s m args below meth c T locs C X N eT).thru fun t q => XS.iload X.here C.1 rfl (hb C.2.1 hd) hl q
theorem iloadN {i : Fin 4} {v : Int32} (hd : decode bs pc = .ok (.iload_n i, 1)) (hl : L[i.val]? = some (.val (.int v))) (hp : pc + 1 = pc') (kt : Go l Z R y bs ml ret n0 Q h k n pc' L (.int v :: St)) : Go l Z R y bs ml ret n0 Q h k n pc L St := by
  subst hp
  intro p e s m args below meth c T locs C X N eT
  exact (kt p e s m args below meth c T locs C X N eT).thru fun t q => XS.iloadN X.here C.1 rfl (hb C.2.1 hd) hl q
theorem istore {i : Nat} {v : Int32} (hd : decode bs pc = .ok (.istore i, 2)) (hl : storeLocals L i (.int v) = some L') (hp : pc + 2 = pc') (kt : Go l Z R y bs ml ret n0 Q h k n pc' L' St) : Go l Z R y bs ml ret n0 Q h k n pc L (.int v :: St) := by
  subst hp
  intro p e s m args below meth c T locs C X N eT
  exact (kt p e s m args below meth c T locs C X N eT).thru fun t q => XS.istore X.here C.1 rfl (hb C.2.1 hd) rfl hl q
theorem istoreN {i : Fin 4} {v : Int32} (hd : decode bs pc = .ok (.istore_n i, 1)) (hl : storeLocals L i.val (.int v) = some L') (hp : pc + 1 = pc') (kt : Go l Z R y bs ml ret n0 Q h k n pc' L' St) : Go l Z R y bs ml ret n0 Q h k n pc L (.int v :: St) := by
  subst hp
  intro p e s m args below meth c T locs C X N eT
  exact (kt p e s m args below meth c T locs C X N eT).thru fun t q => XS.istoreN X.here C.1 rfl (hb C.2.1 hd) rfl hl q
theorem lload {i : Nat} {v : Int64} (hd : decode bs pc = .ok (.lload i, 2)) (hl : L[i]? = some (.val (.long v))) (hp : pc + 2 = pc') (kt : Go l Z R y bs ml ret n0 Q h k n pc' L (.long v :: St)) : Go l Z R y bs ml ret n0 Q h k n pc L St := by
  subst hp
  intro p e s m args below meth c T locs C X N eT
  exact (kt p e s m args below meth c T locs C X N eT).thru fun t q => XS.lload X.here C.1 rfl (hb C.2.1 hd) hl q
theorem lloadN {i : Fin 4} {v : Int64} (hd : decode bs pc = .ok (.lload_n i, 1)) (hl : L[i.val]? = some (.val (.long v))) (hp : pc + 1 = pc') (kt : Go l Z R y bs ml ret n0 Q h k n pc' L (.long v :: St)) : Go l Z R y bs ml ret n0 Q h k n pc L St := by
  subst hp
  intro p e s m args below meth c T locs C X N eT
  exact (kt p e s m args below meth c T locs C X N eT).thru fun t q => XS.lloadN X.here C.1 rfl (hb C.2.1 hd) hl q
theorem lstore {i : Nat} {v : Int64} (hd : decode bs pc = .ok (.lstore i, 2)) (hl : storeLocals L i (.long v) = some L') (hp : pc + 2 = pc') (kt : Go l Z R y bs ml ret n0 Q h k n pc' L' St) : Go l Z R y bs ml ret n0 Q h k n pc L (.long v :: St) := by
  subst hp
  intro p e s m args below meth c T locs C X N eT
  exact (kt p e s m args below meth c T locs C X N eT).thru fun t q => XS.lstore X.here C.1 rfl (hb C.2.1 hd) rfl hl q
theorem lstoreN {i : Fin 4} {v : Int64} (hd : decode bs pc = .ok (.lstore_n i, 1)) (hl : storeLocals L i.val (.long v) = some L') (hp : pc + 1 = pc') (kt : Go l Z R y bs ml ret n0 Q h k n pc' L' St) : Go l Z R y bs ml ret n0 Q h k n pc L (.long v :: St) := by
  subst hp
  intro p e s m args below meth c T locs C X N eT
  exact (kt p e s m args below meth c T locs C X N eT).thru fun t q => XS.lstoreN X.here C.1 rfl (hb C.2.1 hd) rfl hl q
theorem aload {i : Nat} {v : Value} (hd : decode bs pc = .ok (.aload i, 2)) (hl : L[i]? = some (.val v)) (hv : v.isRef = true) (hp : pc + 2 = pc') (kt : Go l Z R y bs ml ret n0 Q h k n pc' L (v :: St)) : Go l Z R y bs ml ret n0 Q h k n pc L St := by
  subst hp
  intro p e s m args below meth c T locs C X N eT
  exact (kt p e s m args below meth c T locs C X N eT).thru fun t q => XS.aload X.here C.1 rfl (hb C.2.1 hd) hl hv q
theorem aloadN {i : Fin 4} {v : Value} (hd : decode bs pc = .ok (.aload_n i, 1)) (hl : L[i.val]? = some (.val v)) (hv : v.isRef = true) (hp : pc + 1 = pc') (kt : Go l Z R y bs ml ret n0 Q h k n pc' L (v :: St)) : Go l Z R y bs ml ret n0 Q h k n pc L St := by
  subst hp
  intro p e s m args below meth c T locs C X N eT
  exact (kt p e s m args below meth c T locs C X N eT).thru fun t q => XS.aloadN X.here C.1 rfl (hb C.2.1 hd) hl hv q
theorem astore {i : Nat} {v : Value} (hd : decode bs pc = .ok (.astore i, 2)) (hv : v.isRef = true) (hl : storeLocals L i v = some L') (hp : pc + 2 = pc') (kt : Go l Z R y bs ml ret n0 Q h k n pc' L' St) : Go l Z R y bs ml ret n0 Q h k n pc L (v :: St) := by
  subst hp
  intro p e s m args below meth c T locs C X N eT
  exact (kt p e s m args below meth c T locs C X N eT).thru fun t q => XS.astore X.here C.1 rfl (hb C.2.1 hd) rfl hv hl q
theorem astoreN {i : Fin 4} {v : Value} (hd : decode bs pc = .ok (.astore_n i, 1)) (hv : v.isRef = true) (hl : storeLocals L i.val v = some L') (hp : pc + 1 = pc') (kt : Go l Z R y bs ml ret n0 Q h k n pc' L' St) : Go l Z R y bs ml ret n0 Q h k n pc L (v :: St) := by
  subst hp
  intro p e s m args below meth c T locs C X N eT
  exact (kt p e s m args below meth c T locs C X N eT).thru fun t q => XS.astoreN X.here C.1 rfl (hb C.2.1 hd) rfl hv hl q
theorem iconst {i : Int} {v : Int32} (hd : decode bs pc = .ok (.iconst i, 1)) (hv : Int32.ofInt i = v) (hp : pc + 1 = pc') (kt : Go l Z R y bs ml ret n0 Q h k n pc' L (.int v :: St)) : Go l Z R y bs ml ret n0 Q h k n pc L St := by
  subst hp hv
  intro p e s m args below meth c T locs C X N eT
  exact (kt p e s m args below meth c T locs C X N eT).thru fun t q => XS.iconst X.here C.1 rfl (hb C.2.1 hd) q
theorem bipush {i : Int} {v : Int32} (hd : decode bs pc = .ok (.bipush i, 2)) (hv : (Int8.ofInt i).toInt32 = v) (hp : pc + 2 = pc') (kt : Go l Z R y bs ml ret n0 Q h k n pc' L (.int v :: St)) : Go l Z R y bs ml ret n0 Q h k n pc L St := by
  subst hp hv
  intro p e s m args below meth c T locs C X N eT
  exact (kt p e s m args below meth c T locs C X N eT).thru fun t q => XS.bipush X.here C.1 rfl (hb C.2.1 hd) q
theorem sipush {i : Int} {v : Int32} (hd : decode bs pc = .ok (.sipush i, 3)) (hv : (Int16.ofInt i).toInt32 = v) (hp : pc + 3 = pc') (kt : Go l Z R y bs ml ret n0 Q h k n pc' L (.int v :: St)) : Go l Z R y bs ml ret n0 Q h k n pc L St := by
  subst hp hv
  intro p e s m args below meth c T locs C X N eT
  exact (kt p e s m args below meth c T locs C X N eT).thru fun t q => XS.sipush X.here C.1 rfl (hb C.2.1 hd) q
theorem aconstNull  (hd : decode bs pc = .ok (.aconst_null, 1)) (hp : pc + 1 = pc') (kt : Go l Z R y bs ml ret n0 Q h k n pc' L (.null :: St)) : Go l Z R y bs ml ret n0 Q h k n pc L St := by
  subst hp
  intro p e s m args below meth c T locs C X N eT
  exact (kt p e s m args below meth c T locs C X N eT).thru fun t q => XS.aconstNull X.here C.1 rfl (hb C.2.1 hd) q
theorem iadd {x z : Int32} (hd : decode bs pc = .ok (.iadd, 1)) (hp : pc + 1 = pc') (kt : Go l Z R y bs ml ret n0 Q h k n pc' L (.int (x + z) :: St)) : Go l Z R y bs ml ret n0 Q h k n pc L (.int z :: .int x :: St) := by
  subst hp
  intro p e s m args below meth c T locs C X N eT
  exact (kt p e s m args below meth c T locs C X N eT).thru fun t q => XS.iadd X.here C.1 rfl (hb C.2.1 hd) rfl q
theorem isub {x z : Int32} (hd : decode bs pc = .ok (.isub, 1)) (hp : pc + 1 = pc') (kt : Go l Z R y bs ml ret n0 Q h k n pc' L (.int (x - z) :: St)) : Go l Z R y bs ml ret n0 Q h k n pc L (.int z :: .int x :: St) := by
  subst hp
  intro p e s m args below meth c T locs C X N eT
  exact (kt p e s m args below meth c T locs C X N eT).thru fun t q => XS.isub X.here C.1 rfl (hb C.2.1 hd) rfl q
theorem imul {x z : Int32} (hd : decode bs pc = .ok (.imul, 1)) (hp : pc + 1 = pc') (kt : Go l Z R y bs ml ret n0 Q h k n pc' L (.int (x * z) :: St)) : Go l Z R y bs ml ret n0 Q h k n pc L (.int z :: .int x :: St) := by
  subst hp
  intro p e s m args below meth c T locs C X N eT
  exact (kt p e s m args below meth c T locs C X N eT).thru fun t q => XS.imul X.here C.1 rfl (hb C.2.1 hd) rfl q
theorem iand {x z : Int32} (hd : decode bs pc = .ok (.iand, 1)) (hp : pc + 1 = pc') (kt : Go l Z R y bs ml ret n0 Q h k n pc' L (.int (x &&& z) :: St)) : Go l Z R y bs ml ret n0 Q h k n pc L (.int z :: .int x :: St) := by
  subst hp
  intro p e s m args below meth c T locs C X N eT
  exact (kt p e s m args below meth c T locs C X N eT).thru fun t q => XS.iand X.here C.1 rfl (hb C.2.1 hd) rfl q
theorem ior {x z : Int32} (hd : decode bs pc = .ok (.ior, 1)) (hp : pc + 1 = pc') (kt : Go l Z R y bs ml ret n0 Q h k n pc' L (.int (x ||| z) :: St)) : Go l Z R y bs ml ret n0 Q h k n pc L (.int z :: .int x :: St) := by
  subst hp
  intro p e s m args below meth c T locs C X N eT
  exact (kt p e s m args below meth c T locs C X N eT).thru fun t q => XS.ior X.here C.1 rfl (hb C.2.1 hd) rfl q
theorem ixor {x z : Int32} (hd : decode bs pc = .ok (.ixor, 1)) (hp : pc + 1 = pc') (kt : Go l Z R y bs ml ret n0 Q h k n pc' L (.int (x ^^^ z) :: St)) : Go l Z R y bs ml ret n0 Q h k n pc L (.int z :: .int x :: St) := by
  subst hp
  intro p e s m args below meth c T locs C X N eT
  exact (kt p e s m args below meth c T locs C X N eT).thru fun t q => XS.ixor X.here C.1 rfl (hb C.2.1 hd) rfl q
theorem ishl {x z : Int32} (hd : decode bs pc = .ok (.ishl, 1)) (hp : pc + 1 = pc') (kt : Go l Z R y bs ml ret n0 Q h k n pc' L (.int (x <<< (z &&& 31)) :: St)) : Go l Z R y bs ml ret n0 Q h k n pc L (.int z :: .int x :: St) := by
  subst hp
  intro p e s m args below meth c T locs C X N eT
  exact (kt p e s m args below meth c T locs C X N eT).thru fun t q => XS.ishl X.here C.1 rfl (hb C.2.1 hd) rfl q
theorem ishr {x z : Int32} (hd : decode bs pc = .ok (.ishr, 1)) (hp : pc + 1 = pc') (kt : Go l Z R y bs ml ret n0 Q h k n pc' L (.int (x >>> (z &&& 31)) :: St)) : Go l Z R y bs ml ret n0 Q h k n pc L (.int z :: .int x :: St) := by
  subst hp
  intro p e s m args below meth c T locs C X N eT
  exact (kt p e s m args below meth c T locs C X N eT).thru fun t q => XS.ishr X.here C.1 rfl (hb C.2.1 hd) rfl q
theorem iushr {x z : Int32} (hd : decode bs pc = .ok (.iushr, 1)) (hp : pc + 1 = pc') (kt : Go l Z R y bs ml ret n0 Q h k n pc' L (.int ((x.toUInt32 >>> (z &&& 31).toUInt32).toInt32) :: St)) : Go l Z R y bs ml ret n0 Q h k n pc L (.int z :: .int x :: St) := by
  subst hp
  intro p e s m args below meth c T locs C X N eT
  exact (kt p e s m args below meth c T locs C X N eT).thru fun t q => XS.iushr X.here C.1 rfl (hb C.2.1 hd) rfl q
theorem ladd {x z : Int64} (hd : decode bs pc = .ok (.ladd, 1)) (hp : pc + 1 = pc') (kt : Go l Z R y bs ml ret n0 Q h k n pc' L (.long (x + z) :: St)) : Go l Z R y bs ml ret n0 Q h k n pc L (.long z :: .long x :: St) := by
  subst hp
  intro p e s m args below meth c T locs C X N eT
  exact (kt p e s m args below meth c T locs C X N eT).thru fun t q => XS.ladd X.here C.1 rfl (hb C.2.1 hd) rfl q
theorem lsub {x z : Int64} (hd : decode bs pc = .ok (.lsub, 1)) (hp : pc + 1 = pc') (kt : Go l Z R y bs ml ret n0 Q h k n pc' L (.long (x - z) :: St)) : Go l Z R y bs ml ret n0 Q h k n pc L (.long z :: .long x :: St) := by
  subst hp
  intro p e s m args below meth c T locs C X N eT
  exact (kt p e s m args below meth c T locs C X N eT).thru fun t q => XS.lsub X.here C.1 rfl (hb C.2.1 hd) rfl q
theorem lmul {x z : Int64} (hd : decode bs pc = .ok (.lmul, 1)) (hp : pc + 1 = pc') (kt : Go l Z R y bs ml ret n0 Q h k n pc' L (.long (x * z) :: St)) : Go l Z R y bs ml ret n0 Q h k n pc L (.long z :: .long x :: St) := by
  subst hp
  intro p e s m args below meth c T locs C X N eT
  exact (kt p e s m args below meth c T locs C X N eT).thru fun t q => XS.lmul X.here C.1 rfl (hb C.2.1 hd) rfl q
theorem land {x z : Int64} (hd : decode bs pc = .ok (.land, 1)) (hp : pc + 1 = pc') (kt : Go l Z R y bs ml ret n0 Q h k n pc' L (.long (x &&& z) :: St)) : Go l Z R y bs ml ret n0 Q h k n pc L (.long z :: .long x :: St) := by
  subst hp
  intro p e s m args below meth c T locs C X N eT
  exact (kt p e s m args below meth c T locs C X N eT).thru fun t q => XS.land X.here C.1 rfl (hb C.2.1 hd) rfl q
theorem lor {x z : Int64} (hd : decode bs pc = .ok (.lor, 1)) (hp : pc + 1 = pc') (kt : Go l Z R y bs ml ret n0 Q h k n pc' L (.long (x ||| z) :: St)) : Go l Z R y bs ml ret n0 Q h k n pc L (.long z :: .long x :: St) := by
  subst hp
  intro p e s m args below meth c T locs C X N eT
  exact (kt p e s m args below meth c T locs C X N eT).thru fun t q => XS.lor X.here C.1 rfl (hb C.2.1 hd) rfl q
theorem lxor {x z : Int64} (hd : decode bs pc = .ok (.lxor, 1)) (hp : pc + 1 = pc') (kt : Go l Z R y bs ml ret n0 Q h k n pc' L (.long (x ^^^ z) :: St)) : Go l Z R y bs ml ret n0 Q h k n pc L (.long z :: .long x :: St) := by
  subst hp
  intro p e s m args below meth c T locs C X N eT
  exact (kt p e s m args below meth c T locs C X N eT).thru fun t q => XS.lxor X.here C.1 rfl (hb C.2.1 hd) rfl q
theorem lshl {x : Int64} {z : Int32} (hd : decode bs pc = .ok (.lshl, 1)) (hp : pc + 1 = pc') (kt : Go l Z R y bs ml ret n0 Q h k n pc' L (.long (x <<< (z &&& 0x3f).toInt64) :: St)) : Go l Z R y bs ml ret n0 Q h k n pc L (.int z :: .long x :: St) := by
  subst hp
  intro p e s m args below meth c T locs C X N eT
  exact (kt p e s m args below meth c T locs C X N eT).thru fun t q => XS.lshl X.here C.1 rfl (hb C.2.1 hd) rfl q
theorem lshr {x : Int64} {z : Int32} (hd : decode bs pc = .ok (.lshr, 1)) (hp : pc + 1 = pc') (kt : Go l Z R y bs ml ret n0 Q h k n pc' L (.long (x >>> (z &&& 0x3f).toInt64) :: St)) : Go l Z R y bs ml ret n0 Q h k n pc L (.int z :: .long x :: St) := by
  subst hp
  intro p e s m args below meth c T locs C X N eT
  exact (kt p e s m args below meth c T locs C X N eT).thru fun t q => XS.lshr X.here C.1 rfl (hb C.2.1 hd) rfl q
theorem lushr {x : Int64} {z : Int32} (hd : decode bs pc = .ok (.lushr, 1)) (hp : pc + 1 = pc') (kt : Go l Z R y bs ml ret n0 Q h k n pc' L (.long ((x.toUInt64 >>> (z &&& 0x3f).toInt64.toUInt64).toInt64) :: St)) : Go l Z R y bs ml ret n0 Q h k n pc L (.int z :: .long x :: St) := by
  subst hp
  intro p e s m args below meth c T locs C X N eT
  exact (kt p e s m args below meth c T locs C X N eT).thru fun t q => XS.lushr X.here C.1 rfl (hb C.2.1 hd) rfl q
theorem ineg {x : Int32} (hd : decode bs pc = .ok (.ineg, 1)) (hp : pc + 1 = pc') (kt : Go l Z R y bs ml ret n0 Q h k n pc' L (.int (-x) :: St)) : Go l Z R y bs ml ret n0 Q h k n pc L (.int x :: St) := by
  subst hp
  intro p e s m args below meth c T locs C X N eT
  exact (kt p e s m args below meth c T locs C X N eT).thru fun t q => XS.ineg X.here C.1 rfl (hb C.2.1 hd) rfl q
theorem lneg {x : Int64} (hd : decode bs pc = .ok (.lneg, 1)) (hp : pc + 1 = pc') (kt : Go l Z R y bs ml ret n0 Q h k n pc' L (.long (-x) :: St)) : Go l Z R y bs ml ret n0 Q h k n pc L (.long x :: St) := by
  subst hp
  intro p e s m args below meth c T locs C X N eT
  exact (kt p e s m args below meth c T locs C X N eT).thru fun t q => XS.lneg X.here C.1 rfl (hb C.2.1 hd) rfl q
theorem i2l {x : Int32} (hd : decode bs pc = .ok (.i2l, 1)) (hp : pc + 1 = pc') (kt : Go l Z R y bs ml ret n0 Q h k n pc' L (.long (x.toInt64) :: St)) : Go l Z R y bs ml ret n0 Q h k n pc L (.int x :: St) := by
  subst hp
  intro p e s m args below meth c T locs C X N eT
  exact (kt p e s m args below meth c T locs C X N eT).thru fun t q => XS.i2l X.here C.1 rfl (hb C.2.1 hd) rfl q
theorem l2i {x : Int64} (hd : decode bs pc = .ok (.l2i, 1)) (hp : pc + 1 = pc') (kt : Go l Z R y bs ml ret n0 Q h k n pc' L (.int (x.toInt32) :: St)) : Go l Z R y bs ml ret n0 Q h k n pc L (.long x :: St) := by
  subst hp
  intro p e s m args below meth c T locs C X N eT
  exact (kt p e s m args below meth c T locs C X N eT).thru fun t q => XS.l2i X.here C.1 rfl (hb C.2.1 hd) rfl q
theorem i2b {x : Int32} (hd : decode bs pc = .ok (.i2b, 1)) (hp : pc + 1 = pc') (kt : Go l Z R y bs ml ret n0 Q h k n pc' L (.int (x.toInt8.toInt32) :: St)) : Go l Z R y bs ml ret n0 Q h k n pc L (.int x :: St) := by
  subst hp
  intro p e s m args below meth c T locs C X N eT
  exact (kt p e s m args below meth c T locs C X N eT).thru fun t q => XS.i2b X.here C.1 rfl (hb C.2.1 hd) rfl q
theorem i2s {x : Int32} (hd : decode bs pc = .ok (.i2s, 1)) (hp : pc + 1 = pc') (kt : Go l Z R y bs ml ret n0 Q h k n pc' L (.int (x.toInt16.toInt32) :: St)) : Go l Z R y bs ml ret n0 Q h k n pc L (.int x :: St) := by
  subst hp
  intro p e s m args below meth c T locs C X N eT
  exact (kt p e s m args below meth c T locs C X N eT).thru fun t q => XS.i2s X.here C.1 rfl (hb C.2.1 hd) rfl q
theorem i2c {x : Int32} (hd : decode bs pc = .ok (.i2c, 1)) (hp : pc + 1 = pc') (kt : Go l Z R y bs ml ret n0 Q h k n pc' L (.int (x.toUInt32.toUInt16.toUInt32.toInt32) :: St)) : Go l Z R y bs ml ret n0 Q h k n pc L (.int x :: St) := by
  subst hp
  intro p e s m args below meth c T locs C X N eT
  exact (kt p e s m args below meth c T locs C X N eT).thru fun t q => XS.i2c X.here C.1 rfl (hb C.2.1 hd) rfl q
theorem lcmp {x z : Int64} (hd : decode bs pc = .ok (.lcmp, 1)) (hp : pc + 1 = pc') (kt : Go l Z R y bs ml ret n0 Q h k n pc' L (.int (lcmpW x z) :: St)) : Go l Z R y bs ml ret n0 Q h k n pc L (.long z :: .long x :: St) := by
  subst hp
  intro p e s m args below meth c T locs C X N eT
  exact (kt p e s m args below meth c T locs C X N eT).thru fun t q => XS.lcmp X.here C.1 rfl (hb C.2.1 hd) rfl q
theorem idiv {x z : Int32} (hd : decode bs pc = .ok (.idiv, 1)) (hz : z ≠ 0) (hp : pc + 1 = pc') (kt : Go l Z R y bs ml ret n0 Q h k n pc' L (.int (x / z) :: St)) : Go l Z R y bs ml ret n0 Q h k n pc L (.int z :: .int x :: St) := by
  subst hp
  intro p e s m args below meth c T locs C X N eT
  exact (kt p e s m args below meth c T locs C X N eT).thru fun t q => XS.idiv X.here C.1 rfl (hb C.2.1 hd) rfl hz q
theorem irem {x z : Int32} (hd : decode bs pc = .ok (.irem, 1)) (hz : z ≠ 0) (hp : pc + 1 = pc') (kt : Go l Z R y bs ml ret n0 Q h k n pc' L (.int (x % z) :: St)) : Go l Z R y bs ml ret n0 Q h k n pc L (.int z :: .int x :: St) := by
  subst hp
  intro p e s m args below meth c T locs C X N eT
  exact (kt p e s m args below meth c T locs C X N eT).thru fun t q => iremM X C.1 rfl (hb C.2.1 hd) rfl hz q
theorem lrem {x z : Int64} (hd : decode bs pc = .ok (.lrem, 1)) (hz : z ≠ 0) (hp : pc + 1 = pc') (kt : Go l Z R y bs ml ret n0 Q h k n pc' L (.long (x % z) :: St)) : Go l Z R y bs ml ret n0 Q h k n pc L (.long z :: .long x :: St) := by
  subst hp
  rw [← lrem_mod] at kt
  intro p e s m args below meth c T locs C X N eT
  exact (kt p e s m args below meth c T locs C X N eT).thru fun t q => XS.lrem X.here C.1 rfl (hb C.2.1 hd) rfl hz q
theorem ldiv {x z : Int64} (hd : decode bs pc = .ok (.ldiv, 1)) (hz : z ≠ 0) (hp : pc + 1 = pc') (kt : Go l Z R y bs ml ret n0 Q h k n pc' L (.long (x / z) :: St)) : Go l Z R y bs ml ret n0 Q h k n pc L (.long z :: .long x :: St) := by
  subst hp
  intro p e s m args below meth c T locs C X N eT
  exact (kt p e s m args below meth c T locs C X N eT).thru fun t q => XS.ldiv X.here C.1 rfl (hb C.2.1 hd) rfl hz q
theorem dup {v : Value} (hd : decode bs pc = .ok (.dup, 1)) (hc : v.category = 1) (hp : pc + 1 = pc') (kt : Go l Z R y bs ml ret n0 Q h k n pc' L (v :: v :: St)) : Go l Z R y bs ml ret n0 Q h k n pc L (v :: St) := by
  subst hp
  intro p e s m args below meth c T locs C X N eT
  exact (kt p e s m args below meth c T locs C X N eT).thru fun t q => XS.dup X.here C.1 rfl (hb C.2.1 hd) rfl hc q
theorem pop {v : Value} (hd : decode bs pc = .ok (.pop, 1)) (hc : v.category = 1) (hp : pc + 1 = pc') (kt : Go l Z R y bs ml ret n0 Q h k n pc' L St) : Go l Z R y bs ml ret n0 Q h k n pc L (v :: St) := by
  subst hp
  intro p e s m args below meth c T locs C X N eT
  exact (kt p e s m args below meth c T locs C X N eT).thru fun t q => XS.pop X.here C.1 rfl (hb C.2.1 hd) rfl hc q
theorem dupX1 {v w : Value} (hd : decode bs pc = .ok (.dup_x1, 1)) (hc : v.category = 1) (hw : w.category = 1) (hp : pc + 1 = pc') (kt : Go l Z R y bs ml ret n0 Q h k n pc' L (v :: w :: v :: St)) : Go l Z R y bs ml ret n0 Q h k n pc L (v :: w :: St) := by
  subst hp
  intro p e s m args below meth c T locs C X N eT
  exact (kt p e s m args below meth c T locs C X N eT).thru fun t q => XS.dupX1 X.here C.1 rfl (hb C.2.1 hd) rfl hc hw q
theorem dup2 {v w : Value} (hd : decode bs pc = .ok (.dup2, 1)) (hc : v.category = 1) (hw : w.category = 1) (hp : pc + 1 = pc') (kt : Go l Z R y bs ml ret n0 Q h k n pc' L (v :: w :: v :: w :: St)) : Go l Z R y bs ml ret n0 Q h k n pc L (v :: w :: St) := by
  subst hp
  intro p e s m args below meth c T locs C X N eT
  exact (kt p e s m args below meth c T locs C X N eT).thru fun t q => XT.dup2 X.here C.1 rfl (hb C.2.1 hd) rfl hc hw q
theorem dup2L {x : Int64} (hd : decode bs pc = .ok (.dup2, 1)) (hp : pc + 1 = pc') (kt : Go l Z R y bs ml ret n0 Q h k n pc' L (.long x :: .long x :: St)) : Go l Z R y bs ml ret n0 Q h k n pc L (.long x :: St) := by
  subst hp
  intro p e s m args below meth c T locs C X N eT
  exact (kt p e s m args below meth c T locs C X N eT).thru fun t q => XT.dup2L X.here C.1 rfl (hb C.2.1 hd) rfl q
theorem lconst {i : Fin 2} {v : Int64} (hd : decode bs pc = .ok (.lconst i, 1)) (hv : Int64.ofNat i.val = v) (hp : pc + 1 = pc') (kt : Go l Z R y bs ml ret n0 Q h k n pc' L (.long v :: St)) : Go l Z R y bs ml ret n0 Q h k n pc L St := by
  subst hp hv
  intro p e s m args below meth c T locs C X N eT
  exact (kt p e s m args below meth c T locs C X N eT).thru fun t q => XS.lconst X.here C.1 rfl (hb C.2.1 hd) q
theorem iinc {i : Nat} {cst : Int} {x d : Int32} (hd : decode bs pc = .ok (.iinc i cst, 3)) (hl : L[i]? = some (.val (.int x))) (hv : Int32.ofInt cst = d) (hs : storeLocals L i (.int (x + d)) = some L') (hp : pc + 3 = pc') (kt : Go l Z R y bs ml ret n0 Q h k n pc' L' St) : Go l Z R y bs ml ret n0 Q h k n pc L St := by
  subst hp hv
  intro p e s m args below meth c T locs C X N eT
  exact (kt p e s m args below meth c T locs C X N eT).thru fun t q => XS.iinc X.here C.1 rfl (hb C.2.1 hd) hl hs q
theorem goto {o : Int} (hd : decode bs pc = .ok (.goto o, 3)) (ho : 0 ≤ (pc : Int) + o) (hp : ((pc : Int) + o).toNat = pc') (kt : Go l Z R y bs ml ret n0 Q h k n pc' L St) : Go l Z R y bs ml ret n0 Q h k n pc L St := by
  intro p e s m args below meth c T locs C X N eT
  exact (kt p e s m args below meth c T locs C X N eT).thru fun t q => XS.goto X.here C.1 rfl rfl (hb C.2.1 hd) ho hp q
theorem icmpY {cd : ClassFile.Cond} {o : Int} {x z : Int32} (hd : decode bs pc = .ok (.if_icmp cd o, 3)) (hc : if_icmp.holds cd x z = true) (ho : 0 ≤ (pc : Int) + o) (hp : ((pc : Int) + o).toNat = pc') (kt : Go l Z R y bs ml ret n0 Q h k n pc' L St) : Go l Z R y bs ml ret n0 Q h k n pc L (.int z :: .int x :: St) := by
  intro p e s m args below meth c T locs C X N eT
  exact (kt p e s m args below meth c T locs C X N eT).thru fun t q => XS.icmpYes X.here C.1 rfl rfl (hb C.2.1 hd) rfl hc ho hp q
theorem icmpN {cd : ClassFile.Cond} {o : Int} {x z : Int32} (hd : decode bs pc = .ok (.if_icmp cd o, 3)) (hc : if_icmp.holds cd x z = false) (hp : pc + 3 = pc') (kt : Go l Z R y bs ml ret n0 Q h k n pc' L St) : Go l Z R y bs ml ret n0 Q h k n pc L (.int z :: .int x :: St) := by
  subst hp
  intro p e s m args below meth c T locs C X N eT
  exact (kt p e s m args below meth c T locs C X N eT).thru fun t q => XS.icmpNo X.here C.1 rfl (hb C.2.1 hd) rfl hc q
theorem ifcY {cd : ClassFile.Cond} {o : Int} {x : Int32} (hd : decode bs pc = .ok (.ifCond cd o, 3)) (hc : ifCond.holds cd x = true) (ho : 0 ≤ (pc : Int) + o) (hp : ((pc : Int) + o).toNat = pc') (kt : Go l Z R y bs ml ret n0 Q h k n pc' L St) : Go l Z R y bs ml ret n0 Q h k n pc L (.int x :: St) := by
  intro p e s m args below meth c T locs C X N eT
  exact (kt p e s m args below meth c T locs C X N eT).thru fun t q => XS.ifYes X.here C.1 rfl rfl (hb C.2.1 hd) rfl hc ho hp q
theorem ifcN {cd : ClassFile.Cond} {o : Int} {x : Int32} (hd : decode bs pc = .ok (.ifCond cd o, 3)) (hc : ifCond.holds cd x = false) (hp : pc + 3 = pc') (kt : Go l Z R y bs ml ret n0 Q h k n pc' L St) : Go l Z R y bs ml ret n0 Q h k n pc L (.int x :: St) := by
  subst hp
  intro p e s m args below meth c T locs C X N eT
  exact (kt p e s m args below meth c T locs C X N eT).thru fun t q => XS.ifNo X.here C.1 rfl (hb C.2.1 hd) rfl hc q
theorem ifnullY {o : Int}  (hd : decode bs pc = .ok (.ifnull o, 3)) (ho : 0 ≤ (pc : Int) + o) (hp : ((pc : Int) + o).toNat = pc') (kt : Go l Z R y bs ml ret n0 Q h k n pc' L St) : Go l Z R y bs ml ret n0 Q h k n pc L (.null :: St) := by
  intro p e s m args below meth c T locs C X N eT
  exact (kt p e s m args below meth c T locs C X N eT).thru fun t q => XS.ifnullYes X.here C.1 rfl rfl (hb C.2.1 hd) rfl ho hp q
theorem ifnullN {o : Int} {b : Addr} (hd : decode bs pc = .ok (.ifnull o, 3)) (hp : pc + 3 = pc') (kt : Go l Z R y bs ml ret n0 Q h k n pc' L St) : Go l Z R y bs ml ret n0 Q h k n pc L (.ref b :: St) := by
  subst hp
  intro p e s m args below meth c T locs C X N eT
  exact (kt p e s m args below meth c T locs C X N eT).thru fun t q => XS.ifnullNo X.here C.1 rfl (hb C.2.1 hd) rfl q
theorem ifnonnullY {o : Int} {b : Addr} (hd : decode bs pc = .ok (.ifnonnull o, 3)) (ho : 0 ≤ (pc : Int) + o) (hp : ((pc : Int) + o).toNat = pc') (kt : Go l Z R y bs ml ret n0 Q h k n pc' L St) : Go l Z R y bs ml ret n0 Q h k n pc L (.ref b :: St) := by
  intro p e s m args below meth c T locs C X N eT
  exact (kt p e s m args below meth c T locs C X N eT).thru fun t q => XS.ifnonnullYes X.here C.1 rfl rfl (hb C.2.1 hd) rfl ho hp q
theorem ifnonnullN {o : Int}  (hd : decode bs pc = .ok (.ifnonnull o, 3)) (hp : pc + 3 = pc') (kt : Go l Z R y bs ml ret n0 Q h k n pc' L St) : Go l Z R y bs ml ret n0 Q h k n pc L (.null :: St) := by
  subst hp
  intro p e s m args below meth c T locs C X N eT
  exact (kt p e s m args below meth c T locs C X N eT).thru fun t q => XS.ifnonnullNo X.here C.1 rfl (hb C.2.1 hd) rfl q
theorem acmp {cd : ACond} {o : Int} {x z : Value} {same : Bool} (hd : decode bs pc = .ok (.if_acmp cd o, 3)) (h1 : x.isRef = true) (h2 : z.isRef = true) (hq : decide (x = z) = same) (ho : 0 ≤ (pc : Int) + o) (hp : pc' = if acV cd same = true then ((pc : Int) + o).toNat else pc + 3) (kt : Go l Z R y bs ml ret n0 Q h k n pc' L St) : Go l Z R y bs ml ret n0 Q h k n pc L (z :: x :: St) := by
  intro p e s m args below meth c T locs C X N eT
  exact (kt p e s m args below meth c T locs C X N eT).thru fun t q => Jvm.RoadKit.acmp (g := mkF m pc L (z :: x :: St)) X C.1 rfl h1 h2 rfl (hb C.2.1 hd) rfl hq ho hp q
theorem pop2J {x : Int64} (hd : decode bs pc = .ok (.pop2, 1)) (hp : pc + 1 = pc') (kt : Go l Z R y bs ml ret n0 Q h k n pc' L St) : Go l Z R y bs ml ret n0 Q h k n pc L (.long x :: St) := by
  subst hp
  intro p e s m args below meth c T locs C X N eT
  have hx := C.1
  have hd' := hb C.2.1 hd
  refine (kt p e s m args below meth c T locs C X N eT).thru fun t q => ?_
  show Steps p.tables e below (T.setTop { method := m, pc := pc, locals := L, stack := .long x :: St, locked := none }) t
  jvm_step X.here [X.here.top, hx, hd', Value.category]
  exact q
theorem tswIn {dflt low high : Int} {offs : Array Int} {len : Nat} {o : Int} {i : Int32} (hd : decode bs pc = .ok (.tableswitch dflt low high offs, len)) (hin : ¬ (i.toInt < low ∨ i.toInt > high)) (hoff : offs[(i.toInt - low).toNat]? = some o) (ho : 0 ≤ (pc : Int) + o) (hp : ((pc : Int) + o).toNat = pc') (kt : Go l Z R y bs ml ret n0 Q h k n pc' L St) : Go l Z R y bs ml ret n0 Q h k n pc L (.int i :: St) := by
  intro p e s m args below meth c T locs C X N eT
  exact (kt p e s m args below meth c T locs C X N eT).thru fun t q => XS.tswIn X.here C.1 rfl rfl (hb C.2.1 hd) rfl hin hoff ho hp q
theorem tswOut {dflt low high : Int} {offs : Array Int} {len : Nat} {i : Int32} (hd : decode bs pc = .ok (.tableswitch dflt low high offs, len)) (hout : i.toInt < low ∨ i.toInt > high) (ho : 0 ≤ (pc : Int) + dflt) (hp : ((pc : Int) + dflt).toNat = pc') (kt : Go l Z R y bs ml ret n0 Q h k n pc' L St) : Go l Z R y bs ml ret n0 Q h k n pc L (.int i :: St) := by
  intro p e s m args below meth c T locs C X N eT
  exact (kt p e s m args below meth c T locs C X N eT).thru fun t q => XS.tswOut X.here C.1 rfl rfl (hb C.2.1 hd) rfl hout ho hp q
theorem ret0 (hd : decode bs pc = .ok (.return_, 1)) (hr : ret = none) (hk : k ≤ R.cells) (hn : n ≤ R.slots) (hQ : Q none h) : Go l Z R y bs ml ret n0 Q h k n pc L [] := by
  intro p e s m args below meth c T locs C X N eT
  have hret := C.2.2.2.2.2.1.trans hr
  obtain ⟨fs, hl, hrun, hended, hW, hsame⟩ := X.leave (v := none) (fun _ => rfl) C.2.2.2.2.2.2.1
  exact ⟨_, _, X.returnOut C.1 hret (hb C.2.1 hd) hl, hrun, hended, _, _, rfl, ⟨by show Q none T.heap; rw [eT]; exact hQ, N⟩, ⟨_, rfl⟩, hW, hsame.mono hk hn⟩
theorem retN {t : FieldType} {x x' : Int32} (hd : decode bs pc = .ok (.ireturn, 1)) (hr : ret = some t) (ht : t = .boolean ∨ t = .byte ∨ t = .char ∨ t = .short) (hx : nar t x = x') (hk : k ≤ R.cells) (hn : n ≤ R.slots) (hQ : Q (some (.int x')) h) : Go l Z R y bs ml ret n0 Q h k n pc L (.int x :: St) := by
  intro p e s m args below meth c T locs C X N eT
  have hret := C.2.2.2.2.2.1.trans hr
  subst hx
  obtain ⟨fs, hl, hrun, hended, hW, hsame⟩ := X.leave (v := some (.int (nar t x))) (fun q => by rw [hret] at q; cases q) C.2.2.2.2.2.2.1
  exact ⟨_, _, Jvm.RoadKit.retN X C.1 hret ht (hb C.2.1 hd) hl, hrun, hended, _, _, rfl, ⟨by show Q _ T.heap; rw [eT]; exact hQ, N⟩, ⟨_, rfl⟩, hW, hsame.mono hk hn⟩
theorem retI {x : Int32} (hd : decode bs pc = .ok (.ireturn, 1)) (hr : ret = some .int) (hk : k ≤ R.cells) (hn : n ≤ R.slots) (hQ : Q (some (.int x)) h) : Go l Z R y bs ml ret n0 Q h k n pc L (.int x :: St) := by
  intro p e s m args below meth c T locs C X N eT
  have hret := C.2.2.2.2.2.1.trans hr
  obtain ⟨fs, hl, hrun, hended, hW, hsame⟩ := X.leave (v := some (.int x)) (fun q => by rw [hret] at q; cases q) C.2.2.2.2.2.2.1
  exact ⟨_, _, Jvm.RoadKit.retOut X C.1 hret rfl (Or.inl ⟨rfl, Or.inl rfl, _, rfl⟩) (hb C.2.1 hd) hl, hrun, hended, _, _, rfl, ⟨by show Q _ T.heap; rw [eT]; exact hQ, N⟩, ⟨_, rfl⟩, hW, hsame.mono hk hn⟩
theorem retJ {x : Int64} (hd : decode bs pc = .ok (.lreturn, 1)) (hr : ret = some .long) (hk : k ≤ R.cells) (hn : n ≤ R.slots) (hQ : Q (some (.long x)) h) : Go l Z R y bs ml ret n0 Q h k n pc L (.long x :: St) := by
  intro p e s m args below meth c T locs C X N eT
  have hret := C.2.2.2.2.2.1.trans hr
  obtain ⟨fs, hl, hrun, hended, hW, hsame⟩ := X.leave (v := some (.long x)) (fun q => by rw [hret] at q; cases q) C.2.2.2.2.2.2.1
  exact ⟨_, _, Jvm.RoadKit.retOut X C.1 hret rfl (Or.inr (Or.inl ⟨rfl, rfl, _, rfl⟩)) (hb C.2.1 hd) hl, hrun, hended, _, _, rfl, ⟨by show Q _ T.heap; rw [eT]; exact hQ, N⟩, ⟨_, rfl⟩, hW, hsame.mono hk hn⟩
theorem retD {x : UInt64} (hd : decode bs pc = .ok (.dreturn, 1)) (hr : ret = some .double) (hk : k ≤ R.cells) (hn : n ≤ R.slots) (hQ : Q (some (.double x)) h) : Go l Z R y bs ml ret n0 Q h k n pc L (.double x :: St) := by
  intro p e s m args below meth c T locs C X N eT
  have hret := C.2.2.2.2.2.1.trans hr
  obtain ⟨fs, hl, hrun, hended, hW, hsame⟩ := X.leave (v := some (.double x)) (fun q => by rw [hret] at q; cases q) C.2.2.2.2.2.2.1
  exact ⟨_, _, Jvm.RoadKit.retOut X C.1 hret rfl (Or.inr (Or.inr (Or.inl ⟨rfl, rfl, _, rfl⟩))) (hb C.2.1 hd) hl, hrun, hended, _, _, rfl, ⟨by show Q _ T.heap; rw [eT]; exact hQ, N⟩, ⟨_, rfl⟩, hW, hsame.mono hk hn⟩
theorem retA {t : FieldType} {v : Value} (hd : decode bs pc = .ok (.areturn, 1)) (hr : ret = some t) (ht : t.isReference = true) (hv : v.isRef = true) (hk : k ≤ R.cells) (hn : n ≤ R.slots) (hQ : Q (some v) h) : Go l Z R y bs ml ret n0 Q h k n pc L (v :: St) := by
  intro p e s m args below meth c T locs C X N eT
  have hret := C.2.2.2.2.2.1.trans hr
  obtain ⟨fs, hl, hrun, hended, hW, hsame⟩ := X.leave (v := some v) (fun q => by rw [hret] at q; cases q) C.2.2.2.2.2.2.1
  have hna : narrow t v = v := by rcases ref_cases hv with rfl | ⟨a, rfl⟩ <;> cases t <;> first | rfl | (cases ht)
  exact ⟨_, _, Jvm.RoadKit.retOut X C.1 hret hna (Or.inr (Or.inr (Or.inr (Or.inr ⟨rfl, ht, hv⟩)))) (hb C.2.1 hd) hl, hrun, hended, _, _, rfl, ⟨by show Q _ T.heap; rw [eT]; exact hQ, N⟩, ⟨_, rfl⟩, hW, hsame.mono hk hn⟩
theorem ldcI {index : Nat} {v : Int32} (hd : decode bs pc = .ok (.ldc index, 2)) (w : (Cond.constant y.cls index v).before a0 Z = true) (hp : pc + 2 = pc') (kt : Go l Z R y bs ml ret n0 Q h k n pc' L (.int v :: St)) : Go l Z R y bs ml ret n0 Q h k n pc L St := by
  subst hp
  intro p e s m args below meth c T locs C X N eT
  exact (kt p e s m args below meth c T locs C X N eT).thru (X.ldcInt C.1 C.2.2.2.1 (mvT C.2.2.2.2.2.2.2 w) (g := mkF m pc L St) rfl (hb C.2.1 hd))
theorem ldcwI {index : Nat} {v : Int32} (hd : decode bs pc = .ok (.ldc_w index, 3)) (w : (Cond.constant y.cls index v).before a0 Z = true) (hp : pc + 3 = pc') (kt : Go l Z R y bs ml ret n0 Q h k n pc' L (.int v :: St)) : Go l Z R y bs ml ret n0 Q h k n pc L St := by
  subst hp
  intro p e s m args below meth c T locs C X N eT
  exact (kt p e s m args below meth c T locs C X N eT).thru (X.ldcwInt C.1 C.2.2.2.1 (mvT C.2.2.2.2.2.2.2 w) (g := mkF m pc L St) rfl (hb C.2.1 hd))
theorem ldc2J {index : Nat} {v : Int64} (hd : decode bs pc = .ok (.ldc2_w index, 3)) (w : (Cond.constantLong y.cls index v).before a0 Z = true) (hp : pc + 3 = pc') (kt : Go l Z R y bs ml ret n0 Q h k n pc' L (.long v :: St)) : Go l Z R y bs ml ret n0 Q h k n pc L St := by
  subst hp
  intro p e s m args below meth c T locs C X N eT
  exact (kt p e s m args below meth c T locs C X N eT).thru (X.ldc2Long C.1 C.2.2.2.1 (mvT C.2.2.2.2.2.2.2 w) (g := mkF m pc L St) rfl (hb C.2.1 hd))
theorem getF {R0 O nm d host : String} {index : Nat} {a : Addr} {v : Value} (hd : decode bs pc = .ok (.getfield index, 3)) (w : (Cond.fieldLink y.cls index R0 nm d).before a0 Z = true ∨ (Cond.fieldLinkNest y.cls index R0 nm d host).before a0 Z = true) (via : Via Z R0 O nm d) (F : Fld Z h a O nm d v) (hp : pc + 3 = pc') (kt : Go l Z R y bs ml ret n0 Q h k n pc' L (v :: St)) : Go l Z R y bs ml ret n0 Q h k n pc L (.ref a :: St) := by
  subst hp
  intro p e s m args below meth c T locs C X N eT
  obtain ⟨T', X', e', st⟩ := Jvm.RoadKit.getF X C.1 C.2.2.2.2.2.2.2 C.2.2.2.1 w via eT F (g := mkF m pc L (.ref a :: St)) rfl rfl (hb C.2.1 hd)
  exact (kt p e s m args below meth c T' locs C X' N e').thru st
theorem getS {R0 O nm d host : String} {index : Nat} {v : Value} (hd : decode bs pc = .ok (.getstatic index, 3)) (w : (Cond.fieldLink y.cls index R0 nm d).before a0 Z = true ∨ (Cond.fieldLinkNest y.cls index R0 nm d host).before a0 Z = true) (via : Via Z R0 O nm d) (F : Sta Z h O nm d v) (hp : pc + 3 = pc') (kt : Go l Z R y bs ml ret n0 Q h k n pc' L (v :: St)) : Go l Z R y bs ml ret n0 Q h k n pc L St := by
  subst hp
  intro p e s m args below meth c T locs C X N eT
  obtain ⟨T', X', e', st⟩ := getS2 X C.1 C.2.2.2.2.2.2.2 C.2.2.2.1 w via eT F (g := mkF m pc L St) rfl (hb C.2.1 hd)
  exact (kt p e s m args below meth c T' locs C X' N e').thru st
theorem putF {R0 O nm d host CC : String} {index kk : Nat} {ty : FieldType} {a : Addr} {v old : Value} (hd : decode bs pc = .ok (.putfield index, 3)) (w : (Cond.fieldLink y.cls index R0 nm d).before a0 Z = true ∨ (Cond.fieldLinkNest y.cls index R0 nm d host).before a0 Z = true) (via : Via Z R0 O nm d) (F : Fld Z h a O nm d old) (E : Exa Z h a CC)
    (Ly : (Cond.lays CC O nm d).before a0 Z = true ∨ ((Cond.laysFinal CC O nm d).before a0 Z = true ∧ y.cls = O ∧ y.name = "<init>")) (wi : (Cond.instantiable CC kk).before a0 Z = true) (hty : parseFieldDescriptor d = some ty) (hn : narrow ty v = v) (hf : fits ty v = true) (g : n0 ≤ a) (hp : pc + 3 = pc')
    (kt : ∀ h', Wr h h' a (Jvm.RoadKit.slotOf Z O nm d) v → Go l Z R y bs ml ret n0 Q h' k n pc' L St) : Go l Z R y bs ml ret n0 Q h k n pc L (v :: .ref a :: St) := by
  subst hp
  intro p e s m args below meth c T locs C X N eT
  obtain ⟨T', h', X', e', W', st⟩ := Jvm.RoadKit.putF X C.1 C.2.2.2.2.2.2.2 C.2.2.2.1 w via eT F E (Ly.imp id fun q => ⟨q.1, q.2.1, C.2.2.2.2.1.trans q.2.2⟩) wi hty hn hf (g := mkF m pc L (v :: .ref a :: St)) rfl rfl (hb C.2.1 hd)
  exact (kt h' W' p e s m args below meth c T' _ C X' (Fr.snoc X' N g) e').thru st
theorem putFN {R0 O nm d CC : String} {index kk : Nat} {ty : FieldType} {a : Addr} {v v' old : Value} (hd : decode bs pc = .ok (.putfield index, 3)) (w : (Cond.fieldLink y.cls index R0 nm d).before a0 Z = true) (via : Via Z R0 O nm d) (F : Fld Z h a O nm d old) (E : Exa Z h a CC)
    (Ly : (Cond.lays CC O nm d).before a0 Z = true ∨ ((Cond.laysFinal CC O nm d).before a0 Z = true ∧ y.cls = O ∧ y.name = "<init>")) (wi : (Cond.instantiable CC kk).before a0 Z = true) (hty : parseFieldDescriptor d = some ty) (hn : narrow ty v = v') (hf : fits ty v' = true) (g : n0 ≤ a) (hp : pc + 3 = pc')
    (kt : ∀ h', Wr h h' a (Jvm.RoadKit.slotOf Z O nm d) v' → Go l Z R y bs ml ret n0 Q h' k n pc' L St) : Go l Z R y bs ml ret n0 Q h k n pc L (v :: .ref a :: St) := by
  subst hp
  intro p e s m args below meth c T locs C X N eT
  obtain ⟨T', h', X', e', W', st⟩ := Jvm.RoadKit.putFN X C.1 C.2.2.2.2.2.2.2 C.2.2.2.1 w via eT F E (Ly.imp id fun q => ⟨q.1, q.2.1, C.2.2.2.2.1.trans q.2.2⟩) wi hty hn hf (g := mkF m pc L (v :: .ref a :: St)) rfl rfl (hb C.2.1 hd)
  exact (kt h' W' p e s m args below meth c T' _ C X' (Fr.snoc X' N g) e').thru st
theorem newO {CC : String} {index nn : Nat} (hd : decode bs pc = .ok (.new index, 3)) (w : (Cond.classLink y.cls index CC).before a0 Z = true) (wi : (Cond.instantiable CC nn).before a0 Z = true) (wz : (Cond.initialized CC).before a0 Z = true) (ek : k + 1 = k') (en : n + nn = n') (hc : k' ≤ R.cells) (hl : n' ≤ R.slots) (hp : pc + 3 = pc')
    (kt : ∀ h' a, a = h.size → Ext h h' → Exa Z h' a CC → (∀ {O nm d : String} {ty : FieldType}, Laid Z a0 CC O nm d → parseFieldDescriptor d = some ty → Fld Z h' a O nm d (defaultValue ty)) → Go l Z R y bs ml ret n0 Q h' k' n' pc' L (.ref a :: St)) : Go l Z R y bs ml ret n0 Q h k n pc L St := by
  subst hp ek en
  intro p e s m args below meth c T locs C X N eT
  obtain ⟨T', h', X', e', E, A, D, -, st⟩ := Jvm.RoadKit.newO X C.1 C.2.2.2.2.2.2.2 C.2.2.2.1 w wi wz eT (g := mkF m pc L St) rfl (hb C.2.1 hd) hc hl
  exact (kt h' _ rfl E A D p e s m args below meth c T' _ C X' N e').thru st
theorem newP {aty : ArrayType} {x : Int32} {cap : Nat} (hd : decode bs pc = .ok (.newarray aty, 2)) (w : (Cond.arrayClass (newarray.typeOf aty)).before a0 Z = true) (hn : ¬ x < 0) (hcap : x.toNatClampNeg ≤ cap) (hb' : cap * 8 ≤ 536870912) (ek : k + 1 = k') (en : n + cap = n') (hc : k' ≤ R.cells) (hl : n' ≤ R.slots) (hp : pc + 2 = pc')
    (kt : ∀ h' cA a, a = h.size → Ext h h' → Arr Z h' a (newA cA (newarray.typeOf aty) x) (newarray.typeOf aty) → Go l Z R y bs ml ret n0 Q h' k' n' pc' L (.ref a :: St)) : Go l Z R y bs ml ret n0 Q h k n pc L (.int x :: St) := by
  subst hp ek en
  intro p e s m args below meth c T locs C X N eT
  obtain ⟨T', h', cA, X', e', E, A, st⟩ := Jvm.RoadKit.newP X C.1 C.2.2.2.2.2.2.2 w eT (g := mkF m pc L (.int x :: St)) rfl (hb C.2.1 hd) rfl hn hcap hb' hc hl
  exact (kt h' cA _ rfl E A p e s m args below meth c T' _ C X' N e').thru st
theorem newR {CC : String} {index : Nat} {x : Int32} {cap : Nat} (hd : decode bs pc = .ok (.anewarray index, 3)) (w1 : (Cond.classLink y.cls index CC).before a0 Z = true) (w2 : (Cond.arrayOver (.object CC)).before a0 Z = true) (hn : ¬ x < 0) (hcap : x.toNatClampNeg ≤ cap) (hb' : cap * 8 ≤ 536870912) (ek : k + 1 = k') (en : n + cap = n') (hc : k' ≤ R.cells) (hl : n' ≤ R.slots) (hp : pc + 3 = pc')
    (kt : ∀ h' cA a, a = h.size → Ext h h' → Arr Z h' a (newA cA (.object CC) x) (.object CC) → Ovr Z cA CC → Go l Z R y bs ml ret n0 Q h' k' n' pc' L (.ref a :: St)) : Go l Z R y bs ml ret n0 Q h k n pc L (.int x :: St) := by
  subst hp ek en
  intro p e s m args below meth c T locs C X N eT
  obtain ⟨T', h', cA, X', e', E, A, O, st⟩ := Jvm.RoadKit.newR X C.1 C.2.2.2.2.2.2.2 C.2.2.2.1 w1 w2 eT (g := mkF m pc L (.int x :: St)) rfl (hb C.2.1 hd) rfl hn hcap hb' hc hl
  exact (kt h' cA _ rfl E A O p e s m args below meth c T' _ C X' N e').thru st
theorem stI {a : Addr} {cl : Cell} {j : Int32} {x : Int32} (hd : decode bs pc = .ok (.iastore, 1)) (A : Arr Z h a cl .int) (hj : ¬ (j < 0 ∨ cl.slots.size ≤ j.toNatClampNeg)) (g : n0 ≤ a) (hp : pc + 1 = pc') (kt : ∀ h', Wr h h' a j.toNatClampNeg (.int x) → Go l Z R y bs ml ret n0 Q h' k n pc' L St) : Go l Z R y bs ml ret n0 Q h k n pc L (.int x :: .int j :: .ref a :: St) := by
  subst hp
  intro p e s m args below meth c T locs C X N eT
  obtain ⟨T', h', X', e', W', st⟩ := Jvm.RoadKit.stI X C.1 C.2.2.2.2.2.2.2 eT A hj (g := mkF m pc L (.int x :: .int j :: .ref a :: St)) rfl rfl (hb C.2.1 hd)
  exact (kt h' W' p e s m args below meth c T' _ C X' (Fr.snoc X' N g) e').thru st
theorem stJ {a : Addr} {cl : Cell} {j : Int32} {x : Int64} (hd : decode bs pc = .ok (.lastore, 1)) (A : Arr Z h a cl .long) (hj : ¬ (j < 0 ∨ cl.slots.size ≤ j.toNatClampNeg)) (g : n0 ≤ a) (hp : pc + 1 = pc') (kt : ∀ h', Wr h h' a j.toNatClampNeg (.long x) → Go l Z R y bs ml ret n0 Q h' k n pc' L St) : Go l Z R y bs ml ret n0 Q h k n pc L (.long x :: .int j :: .ref a :: St) := by
  subst hp
  intro p e s m args below meth c T locs C X N eT
  obtain ⟨T', h', X', e', W', st⟩ := Jvm.RoadKit.stJ X C.1 C.2.2.2.2.2.2.2 eT A hj (g := mkF m pc L (.long x :: .int j :: .ref a :: St)) rfl rfl (hb C.2.1 hd)
  exact (kt h' W' p e s m args below meth c T' _ C X' (Fr.snoc X' N g) e').thru st
theorem stB {a : Addr} {cl : Cell} {j : Int32} {x : Int32} (hd : decode bs pc = .ok (.bastore, 1)) (A : Arr Z h a cl .byte) (hj : ¬ (j < 0 ∨ cl.slots.size ≤ j.toNatClampNeg)) (g : n0 ≤ a) (hp : pc + 1 = pc') (kt : ∀ h', Wr h h' a j.toNatClampNeg (.int (nar .byte x)) → Go l Z R y bs ml ret n0 Q h' k n pc' L St) : Go l Z R y bs ml ret n0 Q h k n pc L (.int x :: .int j :: .ref a :: St) := by
  subst hp
  intro p e s m args below meth c T locs C X N eT
  obtain ⟨T', h', X', e', W', st⟩ := Jvm.RoadKit.stB X C.1 C.2.2.2.2.2.2.2 eT A hj (g := mkF m pc L (.int x :: .int j :: .ref a :: St)) rfl rfl (hb C.2.1 hd)
  exact (kt h' W' p e s m args below meth c T' _ C X' (Fr.snoc X' N g) e').thru st
theorem stC {a : Addr} {cl : Cell} {j : Int32} {x : Int32} (hd : decode bs pc = .ok (.castore, 1)) (A : Arr Z h a cl .char) (hj : ¬ (j < 0 ∨ cl.slots.size ≤ j.toNatClampNeg)) (g : n0 ≤ a) (hp : pc + 1 = pc') (kt : ∀ h', Wr h h' a j.toNatClampNeg (.int (nar .char x)) → Go l Z R y bs ml ret n0 Q h' k n pc' L St) : Go l Z R y bs ml ret n0 Q h k n pc L (.int x :: .int j :: .ref a :: St) := by
  subst hp
  intro p e s m args below meth c T locs C X N eT
  obtain ⟨T', h', X', e', W', st⟩ := Jvm.RoadKit.stC X C.1 C.2.2.2.2.2.2.2 eT A hj (g := mkF m pc L (.int x :: .int j :: .ref a :: St)) rfl rfl (hb C.2.1 hd)
  exact (kt h' W' p e s m args below meth c T' _ C X' (Fr.snoc X' N g) e').thru st
theorem stZ {a : Addr} {cl : Cell} {j : Int32} {x : Int32} (hd : decode bs pc = .ok (.bastore, 1)) (A : Arr Z h a cl .boolean) (hj : ¬ (j < 0 ∨ cl.slots.size ≤ j.toNatClampNeg)) (g : n0 ≤ a) (hp : pc + 1 = pc') (kt : ∀ h', Wr h h' a j.toNatClampNeg (.int (nar .boolean x)) → Go l Z R y bs ml ret n0 Q h' k n pc' L St) : Go l Z R y bs ml ret n0 Q h k n pc L (.int x :: .int j :: .ref a :: St) := by
  subst hp
  intro p e s m args below meth c T locs C X N eT
  obtain ⟨T', h', X', e', W', st⟩ := Jvm.RoadKit.stZ X C.1 C.2.2.2.2.2.2.2 eT A hj (g := mkF m pc L (.int x :: .int j :: .ref a :: St)) rfl rfl (hb C.2.1 hd)
  exact (kt h' W' p e s m args below meth c T' _ C X' (Fr.snoc X' N g) e').thru st
theorem stR {a : Addr} {cl : Cell} {ty : FieldType} {j : Int32} {v : Value} (hd : decode bs pc = .ok (.aastore, 1)) (A : Arr Z h a cl ty) (hj : ¬ (j < 0 ∨ cl.slots.size ≤ j.toNatClampNeg)) (hty : ty.isReference = true) (F : Sto Z h a v) (g : n0 ≤ a) (hp : pc + 1 = pc') (kt : ∀ h', Wr h h' a j.toNatClampNeg v → Go l Z R y bs ml ret n0 Q h' k n pc' L St) : Go l Z R y bs ml ret n0 Q h k n pc L (v :: .int j :: .ref a :: St) := by
  subst hp
  intro p e s m args below meth c T locs C X N eT
  obtain ⟨T', h', X', e', W', st⟩ := Jvm.RoadKit.stR X C.1 C.2.2.2.2.2.2.2 eT A hj hty F (g := mkF m pc L (v :: .int j :: .ref a :: St)) rfl rfl (hb C.2.1 hd)
  exact (kt h' W' p e s m args below meth c T' _ C X' (Fr.snoc X' N g) e').thru st
theorem iaload {a : Addr} {cl : Cell} {j : Int32} {v : Value} (hd : decode bs pc = .ok (.iaload, 1)) (A : Arr Z h a cl .int) (hj : ¬ (j < 0 ∨ cl.slots.size ≤ j.toNatClampNeg)) (hv : cl.slots[j.toNatClampNeg]? = some v) (hp : pc + 1 = pc') (kt : Go l Z R y bs ml ret n0 Q h k n pc' L (v :: St)) : Go l Z R y bs ml ret n0 Q h k n pc L (.int j :: .ref a :: St) := by
  subst hp
  intro p e s m args below meth c T locs C X N eT
  exact (kt p e s m args below meth c T locs C X N eT).thru fun t q => X.iaload C.1 (by rw [eT]; exact A.1) (State.isArrayOf_alike C.2.2.2.2.2.2.2.alike A.2.1) A.2.2 hj hv (g := mkF m pc L (.int j :: .ref a :: St)) rfl rfl (hb C.2.1 hd) _ q
theorem laload {a : Addr} {cl : Cell} {j : Int32} {v : Value} (hd : decode bs pc = .ok (.laload, 1)) (A : Arr Z h a cl .long) (hj : ¬ (j < 0 ∨ cl.slots.size ≤ j.toNatClampNeg)) (hv : cl.slots[j.toNatClampNeg]? = some v) (hp : pc + 1 = pc') (kt : Go l Z R y bs ml ret n0 Q h k n pc' L (v :: St)) : Go l Z R y bs ml ret n0 Q h k n pc L (.int j :: .ref a :: St) := by
  subst hp
  intro p e s m args below meth c T locs C X N eT
  exact (kt p e s m args below meth c T locs C X N eT).thru fun t q => X.laload C.1 (by rw [eT]; exact A.1) (State.isArrayOf_alike C.2.2.2.2.2.2.2.alike A.2.1) A.2.2 hj hv (g := mkF m pc L (.int j :: .ref a :: St)) rfl rfl (hb C.2.1 hd) _ q
theorem caload {a : Addr} {cl : Cell} {j : Int32} {v : Value} (hd : decode bs pc = .ok (.caload, 1)) (A : Arr Z h a cl .char) (hj : ¬ (j < 0 ∨ cl.slots.size ≤ j.toNatClampNeg)) (hv : cl.slots[j.toNatClampNeg]? = some v) (hp : pc + 1 = pc') (kt : Go l Z R y bs ml ret n0 Q h k n pc' L (v :: St)) : Go l Z R y bs ml ret n0 Q h k n pc L (.int j :: .ref a :: St) := by
  subst hp
  intro p e s m args below meth c T locs C X N eT
  exact (kt p e s m args below meth c T locs C X N eT).thru fun t q => X.caload C.1 (by rw [eT]; exact A.1) (State.isArrayOf_alike C.2.2.2.2.2.2.2.alike A.2.1) A.2.2 hj hv (g := mkF m pc L (.int j :: .ref a :: St)) rfl rfl (hb C.2.1 hd) _ q
theorem baload {a : Addr} {cl : Cell} {j : Int32} {v : Value} (hd : decode bs pc = .ok (.baload, 1)) (A : Arr Z h a cl .byte) (hj : ¬ (j < 0 ∨ cl.slots.size ≤ j.toNatClampNeg)) (hv : cl.slots[j.toNatClampNeg]? = some v) (hp : pc + 1 = pc') (kt : Go l Z R y bs ml ret n0 Q h k n pc' L (v :: St)) : Go l Z R y bs ml ret n0 Q h k n pc L (.int j :: .ref a :: St) := by
  subst hp
  intro p e s m args below meth c T locs C X N eT
  exact (kt p e s m args below meth c T locs C X N eT).thru fun t q => X.baloadBytes C.1 (by rw [eT]; exact A.1) (State.isArrayOf_alike C.2.2.2.2.2.2.2.alike A.2.1) A.2.2 hj hv (g := mkF m pc L (.int j :: .ref a :: St)) rfl rfl (hb C.2.1 hd) _ q
theorem aaload {a : Addr} {cl : Cell} {ty : FieldType} {j : Int32} {v : Value} (hd : decode bs pc = .ok (.aaload, 1)) (A : Arr Z h a cl ty) (hty : ty.isReference = true) (hj : ¬ (j < 0 ∨ cl.slots.size ≤ j.toNatClampNeg)) (hv : cl.slots[j.toNatClampNeg]? = some v) (hp : pc + 1 = pc') (kt : Go l Z R y bs ml ret n0 Q h k n pc' L (v :: St)) : Go l Z R y bs ml ret n0 Q h k n pc L (.int j :: .ref a :: St) := by
  subst hp
  intro p e s m args below meth c T locs C X N eT
  exact (kt p e s m args below meth c T locs C X N eT).thru fun t q => X.aaload C.1 (by rw [eT]; exact A.1) (State.isArrayOf_alike C.2.2.2.2.2.2.2.alike A.2.1) hty A.2.2 hj hv (g := mkF m pc L (.int j :: .ref a :: St)) rfl rfl (hb C.2.1 hd) _ q
theorem alen {a : Addr} {cl : Cell} {ty : FieldType} {x : Int32} (hd : decode bs pc = .ok (.arraylength, 1)) (A : Arr Z h a cl ty) (hx : cl.slots.size.toInt32 = x) (hp : pc + 1 = pc') (kt : Go l Z R y bs ml ret n0 Q h k n pc' L (.int x :: St)) : Go l Z R y bs ml ret n0 Q h k n pc L (.ref a :: St) := by
  subst hp hx
  intro p e s m args below meth c T locs C X N eT
  exact (kt p e s m args below meth c T locs C X N eT).thru fun t q => X.arraylength C.1 (by rw [eT]; exact A.1) (State.isArrayOf_alike C.2.2.2.2.2.2.2.alike A.2.1) (g := mkF m pc L (.ref a :: St)) rfl rfl (hb C.2.1 hd) _ q
theorem multi22 {index : Nat} {ty : FieldType} {cn : String} (hd : decode bs pc = .ok (.multianewarray index 2, 4)) (w1 : (Cond.classLink y.cls index cn).before a0 Z = true) (hcn : "[" ++ (FieldType.array ty).toString = cn) (w2 : (Cond.arrayOver (.array ty)).before a0 Z = true) (w3 : (Cond.arrayClass ty).before a0 Z = true) (hcb : componentBytes ty ≤ 8) (hdf : fits ty (defaultValue ty) = true) (hdd : (defaultValue ty).isDefault = true) (ek : k + 3 = k') (en : n + 6 = n') (hc : k' ≤ R.cells) (hl : n' ≤ R.slots) (hp : pc + 4 = pc')
    (kt : ∀ h' cA cI a, a = h.size → h'.size = h.size + 3 → Ext h h' → Arv Z h' a cA (.array ty) (2 : Int32) [.ref (a + 1), .ref (a + 2)] .null → Arv Z h' (a + 1) cI ty (2 : Int32) [defaultValue ty, defaultValue ty] (defaultValue ty) → Arv Z h' (a + 2) cI ty (2 : Int32) [defaultValue ty, defaultValue ty] (defaultValue ty) → Z.vm.findClass (FieldType.array ty).toString = some cI → Go l Z R y bs ml ret n0 Q h' k' n' pc' L (.ref a :: St)) : Go l Z R y bs ml ret n0 Q h k n pc L (.int (2 : Int32) :: .int (2 : Int32) :: St) := by
  subst hp ek en hcn
  intro p e s m args below meth c T locs C X N eT
  have hZ := C.2.2.2.2.2.2.2
  have hc2 : (2 : Int32).toNatClampNeg = 2 := by decide
  obtain ⟨vm₁, cA, cI, hW, hfA, hfC, hO, hI, X', st⟩ := X.multianewarray2F C.1 C.2.2.2.1 (mvT hZ w1) ((Cond.arrayOver_setVmC (args := a0) (s := Z) hZ.alike (.array ty)).trans w2) (mvA hZ w3) (g := mkF m pc L (.int (2 : Int32) :: .int (2 : Int32) :: St)) rfl (hb C.2.1 hd) (n := (2 : Int32)) (k := (2 : Int32)) (rest := St) rfl (by decide) (by decide) (by decide) (by rw [hc2]; omega) (by decide) hdf hdd (by rw [hc2]; omega) (by rw [hc2]; omega)
  rw [hc2] at X' st
  subst eT
  obtain ⟨f1, f2, -, -⟩ := Jvm.Free.Multi.fill_facts (T.setVm vm₁) cA cI 2 2 (defaultValue ty) 2
  obtain ⟨o1, o2, o3⟩ := Jvm.Free.Multi.outerC_facts cA 2 (T.setVm vm₁).heap.size 2
  have hsz : (T.setVm vm₁).heap.size = T.heap.size := rfl
  have al : s.vm.Alike Z.vm := hZ.alike.symm
  have EE : Ext T.heap (Jvm.Free.Multi.fill (T.setVm vm₁) cA cI 2 2 (defaultValue ty) 2).heap := ext_of fun a q => Jvm.Free.Multi.fill_old (T.setVm vm₁) cA cI 2 2 (defaultValue ty) q 2
  have inn : ∀ j, j < 2 → Arv Z (Jvm.Free.Multi.fill (T.setVm vm₁) cA cI 2 2 (defaultValue ty) 2).heap (T.heap.size + 1 + j) cI ty (2 : Int32) [defaultValue ty, defaultValue ty] (defaultValue ty) := fun j hj => by
    have hget := Jvm.Free.Multi.fill_inner (T.setVm vm₁) cA cI 2 2 (defaultValue ty) 2 j hj
    refine ⟨_, ⟨hget, State.isArrayOf_alike al (hI 2 (defaultValue ty)).1, (hI 2 (defaultValue ty)).2⟩, rfl, by simp [Jvm.Free.Multi.innerC, hc2], by decide, fun i hi => ?_, fun i hi => ?_⟩
    · simp only [Jvm.Free.Multi.innerC, Array.size_replicate] at hi ⊢
      match i, hi with
      | 0, _ => rfl
      | 1, _ => rfl
    · simp only [Jvm.Free.Multi.innerC, Array.size_replicate] at hi
      match i, hi with
      | 0, _ => exact hdf
      | 1, _ => exact hdf
  have hZc : Z.vm.findClass (FieldType.array ty).toString = some cI := by rw [← hZ.alike.findClass]; exact hfC
  refine (kt _ cA cI T.heap.size rfl f1 EE ?_ (inn 0 (by decide)) (inn 1 (by decide)) hZc p e s m args below meth c _ _ C X' N rfl).thru st
  refine ⟨_, ⟨f2, State.isArrayOf_alike al (hO 2 _ 2).1, (hO 2 _ 2).2⟩, o1, by rw [o3, hc2], by decide, fun i hi => ?_, fun i hi => ?_⟩
  · rw [o3] at hi
    rw [Jvm.Free.Multi.outerC_slot cA 2 _ 2 i hi, if_pos hi]
    match i, hi with
    | 0, _ => rfl
    | 1, _ => rfl
  · rw [o3] at hi
    match i, hi with
    | 0, _ => rfl
    | 1, _ => rfl
theorem castY {KK : String} {index : Nat} {a : Addr} (hd : decode bs pc = .ok (.checkcast index, 3)) (w : (Cond.classLink y.cls index KK).before a0 Z = true) (F : Ins Z h a KK true) (hp : pc + 3 = pc') (kt : Go l Z R y bs ml ret n0 Q h k n pc' L (.ref a :: St)) : Go l Z R y bs ml ret n0 Q h k n pc L (.ref a :: St) := by
  subst hp
  intro p e s m args below meth c T locs C X N eT
  obtain ⟨T', X', e', st⟩ := Jvm.RoadKit.castY X C.1 C.2.2.2.2.2.2.2 C.2.2.2.1 w eT F (g := mkF m pc L (.ref a :: St)) rfl rfl (hb C.2.1 hd)
  exact (kt p e s m args below meth c T' locs C X' N e').thru st
theorem instY {KK : String} {index : Nat} {a : Addr} (hd : decode bs pc = .ok (.instanceof index, 3)) (w : (Cond.classLink y.cls index KK).before a0 Z = true) (F : Ins Z h a KK true) (hp : pc + 3 = pc') (kt : Go l Z R y bs ml ret n0 Q h k n pc' L (.int 1 :: St)) : Go l Z R y bs ml ret n0 Q h k n pc L (.ref a :: St) := by
  subst hp
  intro p e s m args below meth c T locs C X N eT
  obtain ⟨T', X', e', st⟩ := Jvm.RoadKit.instY X C.1 C.2.2.2.2.2.2.2 C.2.2.2.1 w eT F (g := mkF m pc L (.ref a :: St)) rfl rfl (hb C.2.1 hd)
  exact (kt p e s m args below meth c T' locs C X' N e').thru st
theorem instNo {KK CC : String} {index : Nat} {a : Addr} (hd : decode bs pc = .ok (.instanceof index, 3)) (w : (Cond.classLink y.cls index KK).before a0 Z = true) (E : Exa Z h a CC) (F : ∃ c t, Z.vm.findClass CC = some c ∧ Z.vm.findClass KK = some t ∧ Z.vm.assignable c t = false) (hp : pc + 3 = pc') (kt : Go l Z R y bs ml ret n0 Q h k n pc' L (.int 0 :: St)) : Go l Z R y bs ml ret n0 Q h k n pc L (.ref a :: St) := by
  subst hp
  intro p e s m args below meth c T locs C X N eT
  obtain ⟨T', X', e', st⟩ := Jvm.RoadKit.instNo X C.1 C.2.2.2.2.2.2.2 C.2.2.2.1 w eT E F (g := mkF m pc L (.ref a :: St)) rfl rfl (hb C.2.1 hd)
  exact (kt p e s m args below meth c T' locs C X' N e').thru st
theorem instNull {index : Nat} (hd : decode bs pc = .ok (.instanceof index, 3)) (hp : pc + 3 = pc') (kt : Go l Z R y bs ml ret n0 Q h k n pc' L (.int 0 :: St)) : Go l Z R y bs ml ret n0 Q h k n pc L (.null :: St) := by
  subst hp
  intro p e s m args below meth c T locs C X N eT
  exact (kt p e s m args below meth c T locs C X N eT).thru (X.instanceofNull C.1 (g := mkF m pc L (.null :: St)) rfl rfl (hb C.2.1 hd))
theorem castNull {index : Nat} (hd : decode bs pc = .ok (.checkcast index, 3)) (hp : pc + 3 = pc') (kt : Go l Z R y bs ml ret n0 Q h k n pc' L (.null :: St)) : Go l Z R y bs ml ret n0 Q h k n pc L (.null :: St) := by
  subst hp
  intro p e s m args below meth c T locs C X N eT
  exact (kt p e s m args below meth c T locs C X N eT).thru (X.checkcastNull C.1 (g := mkF m pc L (.null :: St)) rfl rfl (hb C.2.1 hd))
theorem initO {index : Nat} {a : Addr} {W : Nat} (hd : decode bs pc = .ok (.invokespecial index, 3)) (w1 : (Cond.methodLink y.cls index Lib.objectInit).before a0 Z = true) (w2 : (Cond.instanceMethod Lib.objectInit).before a0 Z = true) (w3 : (Cond.code Lib.objectInit ⟨#[0xb1]⟩ 1 none).before a0 Z = true) (hsz : L.size = ml) (hf : 1 ≤ R.frames) (hW : (St.map fun v => v.category).sum ≤ W) (hl : W + 12 ≤ R.locals) (hp : pc + 3 = pc') (kt : Go l Z R y bs ml ret n0 Q h k n pc' L St) : Go l Z R y bs ml ret n0 Q h k n pc L (.ref a :: St) := by
  subst hp
  intro p e s m args below meth c T locs C X N eT
  obtain ⟨T', X', e', st⟩ := Jvm.RoadKit.initO X C.1 C.2.2.2.2.2.2.2 C.2.2.2.1 w1 w2 w3 eT (g := mkF m pc L (.ref a :: St)) rfl (by rw [C.2.2.1]; exact hsz) rfl (hb C.2.1 hd) hf (W := W) (by show 2 * 0 + _ ≤ _; omega) hl
  exact (kt p e s m args below meth c T' locs C X' N e').thru st
theorem callS {z : MethodName} {bz : ByteArray} {mz : Nat} {rz : Option FieldType} {rm : Room} {as' : Array Value} {Q' : Option Value → Heap → Prop} {W : Nat} {argsL rest : List Value} {ps : List FieldType} {rt : Option FieldType} {index : Nat} (hd : decode bs pc = .ok (.invokestatic index, 3)) (w1 : (Cond.methodLink y.cls index z).before a0 Z = true) (w2 : (Cond.static z).before a0 Z = true) (w3 : (Cond.initialized z.cls).before a0 Z = true) (w4 : (Cond.code z bz mz rz).before a0 Z = true) (hy : z.cls ≠ "java/lang/invoke/MethodHandle" ∧ z.cls ≠ "java/lang/invoke/VarHandle")
    (con : Con l Z rm z bz mz rz n0 as' h Q') (hf : rm.frames + 1 ≤ R.frames) (hl : W + (mz + 11) + rm.locals ≤ R.locals) (ek : k + rm.cells = k') (en : n + rm.slots = n') (hc : k' ≤ R.cells) (hn : n' ≤ R.slots) (hsz : L.size = ml) (pd : parseMethodDescriptor z.desc = some ⟨ps, rt⟩) (hlen : argsL.length = ps.length) (hst : St = argsL.reverse ++ rest) (has : as' = argsL.toArray) (hW : (rest.map fun v => v.category).sum ≤ W) (hp : pc + 3 = pc')
    (kt : ∀ h' v, Q' v h' → Go l Z R y bs ml ret n0 Q h' k' n' pc' L (v.toList ++ rest)) : Go l Z R y bs ml ret n0 Q h k n pc L St := by
  subst hp has ek en
  intro p e s m args below meth c T locs C X N eT
  have hZ := C.2.2.2.2.2.2.2
  obtain ⟨v, _, ⟨T', Lp, kp, np⟩, -, X', ⟨Lc, ⟨hQ, N'⟩, e1, e2, e3⟩, st⟩ := Jvm.LawKit.callS X C.1 (y := z) C.2.2.2.1 (mvT hZ w1) (mvT hZ w2) (mvT hZ w3) (mvT hZ w4) hy (backOf (W := W) (Q := fun v h' L => Q' v h' ∧ Fr n0 L) (con []) hZ w4 w3 hf hl) (g := mkF m pc L St) rfl (by rw [C.2.2.1]; exact hsz) (argsL := argsL) (rest := rest) (lenOf pd hlen) hst (by show 2 * 0 + _ ≤ _; omega) (hb C.2.1 hd) (fun _ _ => ⟨rfl, eT, hc, hn⟩)
  dsimp only [Pt.U, Pt.locs, Pt.cells, Pt.slots] at X' e1 e2 e3 st hQ
  subst e1 e2 e3
  exact (kt T'.heap v hQ p e s m args below meth c T' _ C X' (Fr.app N N') rfl).thru st
theorem callI {z : MethodName} {bz : ByteArray} {mz : Nat} {rm : Room} {as' : Array Value} {Q' : Option Value → Heap → Prop} {W : Nat} {argsL rest : List Value} {ps : List FieldType} {rt : Option FieldType} {index : Nat} {a : Addr} (hd : decode bs pc = .ok (.invokespecial index, 3)) (hi : z.name = "<init>") (w1 : (Cond.methodLink y.cls index z).before a0 Z = true) (w2 : (Cond.instanceMethod z).before a0 Z = true) (w3 : (Cond.initialized z.cls).before a0 Z = true) (w4 : (Cond.code z bz mz none).before a0 Z = true) (hy : z.cls ≠ "java/lang/invoke/MethodHandle" ∧ z.cls ≠ "java/lang/invoke/VarHandle")
    (con : Con l Z rm z bz mz none n0 as' h Q') (hf : rm.frames + 1 ≤ R.frames) (hl : W + (mz + 11) + rm.locals ≤ R.locals) (ek : k + rm.cells = k') (en : n + rm.slots = n') (hc : k' ≤ R.cells) (hn : n' ≤ R.slots) (hsz : L.size = ml) (pd : parseMethodDescriptor z.desc = some ⟨ps, rt⟩) (hlen : argsL.length = ps.length) (hst : St = argsL.reverse ++ .ref a :: rest) (has : as' = (.ref a :: argsL).toArray) (hW : (rest.map fun v => v.category).sum ≤ W) (hp : pc + 3 = pc')
    (kt : ∀ h' v, Q' v h' → Go l Z R y bs ml ret n0 Q h' k' n' pc' L (v.toList ++ rest)) : Go l Z R y bs ml ret n0 Q h k n pc L St := by
  subst hp has ek en
  intro p e s m args below meth c T locs C X N eT
  have hZ := C.2.2.2.2.2.2.2
  obtain ⟨v, _, ⟨T', Lp, kp, np⟩, -, X', ⟨Lc, ⟨hQ, N'⟩, e1, e2, e3⟩, st⟩ := X.specialBack C.1 (y := z) hi C.2.2.2.1 (mvT hZ w1) (mvT hZ w2) (mvT hZ w4) hy (backOf (W := W) (Q := fun v h' L => Q' v h' ∧ Fr n0 L) (con []) hZ w4 w3 hf hl) (g := mkF m pc L St) rfl (by rw [C.2.2.1]; exact hsz) (Steps.refl _) (a := a) (argsL := argsL) (rest := rest) (lenOf pd hlen) hst (by show 2 * 0 + _ ≤ _; omega) (hb C.2.1 hd) (fun _ _ => ⟨rfl, eT, hc, hn⟩)
  dsimp only [Pt.U, Pt.locs, Pt.cells, Pt.slots] at X' e1 e2 e3 st hQ
  subst e1 e2 e3
  exact (kt T'.heap v hQ p e s m args below meth c T' _ C X' (Fr.app N N') rfl).thru fun t q => st.trans q
theorem callV {z : MethodName} {bz : ByteArray} {mz : Nat} {rz : Option FieldType} {rm : Room} {as' : Array Value} {Q' : Option Value → Heap → Prop} {W : Nat} {argsL rest : List Value} {ps : List FieldType} {rt : Option FieldType} {index : Nat} {CC : String} {a : Addr} (hd : decode bs pc = .ok (.invokevirtual index, 3)) (w1 : (Cond.methodLink y.cls index z).before a0 Z = true) (w2 : (Cond.declares z).before a0 Z = true) (ws : (Cond.selects CC z z).before a0 Z = true) (wi : (Cond.instanceMethod z).before a0 Z = true) (w3 : (Cond.initialized z.cls).before a0 Z = true) (w4 : (Cond.code z bz mz rz).before a0 Z = true) (hy : z.cls ≠ "java/lang/invoke/MethodHandle" ∧ z.cls ≠ "java/lang/invoke/VarHandle") (E : Exa Z h a CC)
    (con : Con l Z rm z bz mz rz n0 as' h Q') (hf : rm.frames + 1 ≤ R.frames) (hl : W + (mz + 11) + rm.locals ≤ R.locals) (ek : k + rm.cells = k') (en : n + rm.slots = n') (hc : k' ≤ R.cells) (hn : n' ≤ R.slots) (hsz : L.size = ml) (pd : parseMethodDescriptor z.desc = some ⟨ps, rt⟩) (hlen : argsL.length = ps.length) (hst : St = argsL.reverse ++ .ref a :: rest) (has : as' = (.ref a :: argsL).toArray) (hW : (rest.map fun v => v.category).sum ≤ W) (hp : pc + 3 = pc')
    (kt : ∀ h' v, Q' v h' → Go l Z R y bs ml ret n0 Q h' k' n' pc' L (v.toList ++ rest)) : Go l Z R y bs ml ret n0 Q h k n pc L St := by
  subst hp has ek en
  intro p e s m args below meth c T locs C X N eT
  have hZ := C.2.2.2.2.2.2.2
  obtain ⟨cq, kq, qa, qb, qc⟩ := isOf hZ eT E
  obtain ⟨v, _, ⟨T', Lp, kp, np⟩, -, X', ⟨Lc, ⟨hQ, N'⟩, e1, e2, e3⟩, st⟩ := X.virtualBack C.1 (y := z) (z := z) C.2.2.2.1 (mvT hZ w1) (mvT hZ w2) (notFace_of_selects (args := #[]) (mvT hZ ws)) (mvT hZ ws) (mvT hZ wi) hy (backOf (W := W) (Q := fun v h' L => Q' v h' ∧ Fr n0 L) (con []) hZ w4 w3 hf hl) qa qc (g := mkF m pc L St) rfl (by rw [C.2.2.1]; exact hsz) (Steps.refl _) (argsL := argsL) (rest := rest) (lenOf pd hlen) hst (by show 2 * 0 + _ ≤ _; omega) (hb C.2.1 hd) (fun _ _ => ⟨rfl, eT, hc, hn⟩)
  dsimp only [Pt.U, Pt.locs, Pt.cells, Pt.slots] at X' e1 e2 e3 st hQ
  subst e1 e2 e3
  exact (kt T'.heap v hQ p e s m args below meth c T' _ C X' (Fr.app N N') rfl).thru fun t q => st.trans q
theorem callVF {z : MethodName} {bz : ByteArray} {mz : Nat} {rz : Option FieldType} {rm : Room} {as' : Array Value} {Q' : Option Value → Heap → Prop} {W : Nat} {argsL rest : List Value} {ps : List FieldType} {rt : Option FieldType} {index cnt : Nat} {x' : MethodName} {CC : String} {a : Addr} (hd : decode bs pc = .ok (.invokeinterface index cnt, 5)) (w1 : (Cond.methodLink y.cls index x').before a0 Z = true) (w2 : (Cond.declares x').before a0 Z = true) (wf : (Cond.interfaceMethod x'.cls x'.cls x'.name x'.desc).before a0 Z = true) (ws : (Cond.selects CC x' z).before a0 Z = true) (wi : (Cond.instanceMethod z).before a0 Z = true) (wp : (Cond.publicMethod z).before a0 Z = true) (wu : (Cond.unhidden CC x'.name x'.desc).before a0 Z = true) (wc : (Cond.castable CC x'.cls).before a0 Z = true) (w3 : (Cond.initialized z.cls).before a0 Z = true) (w4 : (Cond.code z bz mz rz).before a0 Z = true) (hy : x'.cls ≠ "java/lang/invoke/MethodHandle" ∧ x'.cls ≠ "java/lang/invoke/VarHandle") (E : Exa Z h a CC)
    (con : Con l Z rm z bz mz rz n0 as' h Q') (hf : rm.frames + 1 ≤ R.frames) (hl : W + (mz + 11) + rm.locals ≤ R.locals) (ek : k + rm.cells = k') (en : n + rm.slots = n') (hc : k' ≤ R.cells) (hn : n' ≤ R.slots) (hsz : L.size = ml) (pd : parseMethodDescriptor x'.desc = some ⟨ps, rt⟩) (hlen : argsL.length = ps.length) (hst : St = argsL.reverse ++ .ref a :: rest) (has : as' = (.ref a :: argsL).toArray) (hW : (rest.map fun v => v.category).sum ≤ W) (hp : pc + 5 = pc')
    (kt : ∀ h' v, Q' v h' → Go l Z R y bs ml ret n0 Q h' k' n' pc' L (v.toList ++ rest)) : Go l Z R y bs ml ret n0 Q h k n pc L St := by
  subst hp has ek en
  intro p e s m args below meth c T locs C X N eT
  have hZ := C.2.2.2.2.2.2.2
  obtain ⟨cq, kq, qa, qb, qc⟩ := isOf hZ eT E
  obtain ⟨v, _, ⟨T', Lp, kp, np⟩, -, X', ⟨Lc, ⟨hQ, N'⟩, e1, e2, e3⟩, st⟩ := X.interfaceBack C.1 (xi := x') (y := z) C.2.2.2.1 (mvT hZ w1) (mvT hZ w2) (mvT hZ wf (by have g1 := hy.1; have g2 := hy.2; simp [Cond.onTables, Cond.keepsFace, Cond.keeps, Cond.steady, Cond.faceAtom, g1, g2])) (mvT hZ ws) (mvT hZ wi) (mvT hZ wp) (mvT hZ wu) (mvT hZ wc) hy (backOf (W := W) (Q := fun v h' L => Q' v h' ∧ Fr n0 L) (con []) hZ w4 w3 hf hl) qa qb qc (g := mkF m pc L St) rfl (by rw [C.2.2.1]; exact hsz) (Steps.refl _) (argsL := argsL) (rest := rest) (lenOf pd hlen) hst (by show 2 * 0 + _ ≤ _; omega) (hb C.2.1 hd) (fun _ _ => ⟨rfl, eT, hc, hn⟩)
  dsimp only [Pt.U, Pt.locs, Pt.cells, Pt.slots] at X' e1 e2 e3 st hQ
  subst e1 e2 e3
  exact (kt T'.heap v hQ p e s m args below meth c T' _ C X' (Fr.app N N') rfl).thru fun t q => st.trans q
theorem callP {z : MethodName} {bz : ByteArray} {mz : Nat} {rz : Option FieldType} {rm : Room} {as' : Array Value} {Q' : Option Value → Heap → Prop} {W : Nat} {argsL rest : List Value} {ps : List FieldType} {rt : Option FieldType} {index : Nat} {a : Addr} {CC : String} (hd : decode bs pc = .ok (.invokevirtual index, 3)) (w1 : (Cond.methodLink y.cls index z).before a0 Z = true) (wi : (Cond.instanceMethod z).before a0 Z = true) {nn : Nat} (win : (Cond.instantiable z.cls nn).before a0 Z = true) (wp : (Cond.privateMethod z).before a0 Z = true) (w3 : (Cond.initialized z.cls).before a0 Z = true) (w4 : (Cond.code z bz mz rz).before a0 Z = true) (hy : z.cls ≠ "java/lang/invoke/MethodHandle" ∧ z.cls ≠ "java/lang/invoke/VarHandle") (E : Exa Z h a CC)
    (con : Con l Z rm z bz mz rz n0 as' h Q') (hf : rm.frames + 1 ≤ R.frames) (hl : W + (mz + 11) + rm.locals ≤ R.locals) (ek : k + rm.cells = k') (en : n + rm.slots = n') (hc : k' ≤ R.cells) (hn : n' ≤ R.slots) (hsz : L.size = ml) (pd : parseMethodDescriptor z.desc = some ⟨ps, rt⟩) (hlen : argsL.length = ps.length) (hst : St = argsL.reverse ++ .ref a :: rest) (has : as' = (.ref a :: argsL).toArray) (hW : (rest.map fun v => v.category).sum ≤ W) (hp : pc + 3 = pc')
    (kt : ∀ h' v, Q' v h' → Go l Z R y bs ml ret n0 Q h' k' n' pc' L (v.toList ++ rest)) : Go l Z R y bs ml ret n0 Q h k n pc L St := by
  subst hp has ek en
  intro p e s m args below meth c T locs C X N eT
  have hZ := C.2.2.2.2.2.2.2
  have ws : (Cond.selects z.cls z z).before a0 Z = true := by
    obtain ⟨t, kt, g1, g2, g3, g4, -, -⟩ := Cond.instantiable_spec win
    exact selects_self_of_private g1 g2 (Bool.or_eq_false_iff.mp g4).1 (Cond.privateMethod_at wp) wi hy
  obtain ⟨cq, qa, qb⟩ := E.cell
  obtain ⟨v, _, ⟨T', Lp, kp, np⟩, -, X', ⟨Lc, ⟨hQ, N'⟩, e1, e2, e3⟩, st⟩ := X.privateBack C.1 (y := z) C.2.2.2.1 (mvT hZ w1) (mvT hZ wi) (mvT hZ ws) (Cond.privateMethod_at (mvP hZ wp (args := #[]))) (mvT hZ w4) hy (backOf (W := W) (Q := fun v h' L => Q' v h' ∧ Fr n0 L) (con []) hZ w4 w3 hf hl) (g := mkF m pc L St) rfl (by rw [C.2.2.1]; exact hsz) (Steps.refl _) (a := a) (by rw [eT]; exact qa) qb (argsL := argsL) (rest := rest) (lenOf pd hlen) hst (by show 2 * 0 + _ ≤ _; omega) (hb C.2.1 hd) (fun _ _ => ⟨rfl, eT, hc, hn⟩)
  dsimp only [Pt.U, Pt.locs, Pt.cells, Pt.slots] at X' e1 e2 e3 st hQ
  subst e1 e2 e3
  exact (kt T'.heap v hQ p e s m args below meth c T' _ C X' (Fr.app N N') rfl).thru fun t q => st.trans q
theorem callS0 {z : MethodName} {bz : ByteArray} {mz : Nat} {rz : Option FieldType} {rm : Room} {as' : Array Value} {r : Option Value} {St' : List Value} {W : Nat} {argsL rest : List Value} {ps : List FieldType} {rt : Option FieldType} {index : Nat} (hd : decode bs pc = .ok (.invokestatic index, 3)) (w1 : (Cond.methodLink y.cls index z).before a0 Z = true) (w2 : (Cond.static z).before a0 Z = true) (w3 : (Cond.initialized z.cls).before a0 Z = true) (w4 : (Cond.code z bz mz rz).before a0 Z = true) (hy : z.cls ≠ "java/lang/invoke/MethodHandle" ∧ z.cls ≠ "java/lang/invoke/VarHandle")
    (con : Con l Z rm z bz mz rz n0 as' h (Ret r h)) (hf : rm.frames + 1 ≤ R.frames) (hl : W + (mz + 11) + rm.locals ≤ R.locals) (ek : k + rm.cells = k') (en : n + rm.slots = n') (hc : k' ≤ R.cells) (hn : n' ≤ R.slots) (hsz : L.size = ml) (pd : parseMethodDescriptor z.desc = some ⟨ps, rt⟩) (hlen : argsL.length = ps.length) (hst : St = argsL.reverse ++ rest) (has : as' = argsL.toArray) (hW : (rest.map fun v => v.category).sum ≤ W) (hs : r.toList ++ rest = St') (hp : pc + 3 = pc')
    (kt : Go l Z R y bs ml ret n0 Q h k' n' pc' L St') : Go l Z R y bs ml ret n0 Q h k n pc L St := by
  subst hs
  refine callS hd w1 w2 w3 w4 hy con hf hl ek en hc hn hsz pd hlen hst has hW hp ?_
  rintro h' v ⟨rfl, rfl⟩
  exact kt
theorem callI0 {z : MethodName} {bz : ByteArray} {mz : Nat} {rm : Room} {as' : Array Value} {r : Option Value} {St' : List Value} {W : Nat} {argsL rest : List Value} {ps : List FieldType} {rt : Option FieldType} {index : Nat} {a : Addr} (hd : decode bs pc = .ok (.invokespecial index, 3)) (hi : z.name = "<init>") (w1 : (Cond.methodLink y.cls index z).before a0 Z = true) (w2 : (Cond.instanceMethod z).before a0 Z = true) (w3 : (Cond.initialized z.cls).before a0 Z = true) (w4 : (Cond.code z bz mz none).before a0 Z = true) (hy : z.cls ≠ "java/lang/invoke/MethodHandle" ∧ z.cls ≠ "java/lang/invoke/VarHandle")
    (con : Con l Z rm z bz mz none n0 as' h (Ret r h)) (hf : rm.frames + 1 ≤ R.frames) (hl : W + (mz + 11) + rm.locals ≤ R.locals) (ek : k + rm.cells = k') (en : n + rm.slots = n') (hc : k' ≤ R.cells) (hn : n' ≤ R.slots) (hsz : L.size = ml) (pd : parseMethodDescriptor z.desc = some ⟨ps, rt⟩) (hlen : argsL.length = ps.length) (hst : St = argsL.reverse ++ .ref a :: rest) (has : as' = (.ref a :: argsL).toArray) (hW : (rest.map fun v => v.category).sum ≤ W) (hs : r.toList ++ rest = St') (hp : pc + 3 = pc')
    (kt : Go l Z R y bs ml ret n0 Q h k' n' pc' L St') : Go l Z R y bs ml ret n0 Q h k n pc L St := by
  subst hs
  refine callI hd hi w1 w2 w3 w4 hy con hf hl ek en hc hn hsz pd hlen hst has hW hp ?_
  rintro h' v ⟨rfl, rfl⟩
  exact kt
theorem callV0 {z : MethodName} {bz : ByteArray} {mz : Nat} {rz : Option FieldType} {rm : Room} {as' : Array Value} {r : Option Value} {St' : List Value} {W : Nat} {argsL rest : List Value} {ps : List FieldType} {rt : Option FieldType} {index : Nat} {CC : String} {a : Addr} (hd : decode bs pc = .ok (.invokevirtual index, 3)) (w1 : (Cond.methodLink y.cls index z).before a0 Z = true) (w2 : (Cond.declares z).before a0 Z = true) (ws : (Cond.selects CC z z).before a0 Z = true) (wi : (Cond.instanceMethod z).before a0 Z = true) (w3 : (Cond.initialized z.cls).before a0 Z = true) (w4 : (Cond.code z bz mz rz).before a0 Z = true) (hy : z.cls ≠ "java/lang/invoke/MethodHandle" ∧ z.cls ≠ "java/lang/invoke/VarHandle") (E : Exa Z h a CC)
    (con : Con l Z rm z bz mz rz n0 as' h (Ret r h)) (hf : rm.frames + 1 ≤ R.frames) (hl : W + (mz + 11) + rm.locals ≤ R.locals) (ek : k + rm.cells = k') (en : n + rm.slots = n') (hc : k' ≤ R.cells) (hn : n' ≤ R.slots) (hsz : L.size = ml) (pd : parseMethodDescriptor z.desc = some ⟨ps, rt⟩) (hlen : argsL.length = ps.length) (hst : St = argsL.reverse ++ .ref a :: rest) (has : as' = (.ref a :: argsL).toArray) (hW : (rest.map fun v => v.category).sum ≤ W) (hs : r.toList ++ rest = St') (hp : pc + 3 = pc')
    (kt : Go l Z R y bs ml ret n0 Q h k' n' pc' L St') : Go l Z R y bs ml ret n0 Q h k n pc L St := by
  subst hs
  refine callV hd w1 w2 ws wi w3 w4 hy E con hf hl ek en hc hn hsz pd hlen hst has hW hp ?_
  rintro h' v ⟨rfl, rfl⟩
  exact kt
theorem callVF0 {z : MethodName} {bz : ByteArray} {mz : Nat} {rz : Option FieldType} {rm : Room} {as' : Array Value} {r : Option Value} {St' : List Value} {W : Nat} {argsL rest : List Value} {ps : List FieldType} {rt : Option FieldType} {index cnt : Nat} {x' : MethodName} {CC : String} {a : Addr} (hd : decode bs pc = .ok (.invokeinterface index cnt, 5)) (w1 : (Cond.methodLink y.cls index x').before a0 Z = true) (w2 : (Cond.declares x').before a0 Z = true) (wf : (Cond.interfaceMethod x'.cls x'.cls x'.name x'.desc).before a0 Z = true) (ws : (Cond.selects CC x' z).before a0 Z = true) (wi : (Cond.instanceMethod z).before a0 Z = true) (wp : (Cond.publicMethod z).before a0 Z = true) (wu : (Cond.unhidden CC x'.name x'.desc).before a0 Z = true) (wc : (Cond.castable CC x'.cls).before a0 Z = true) (w3 : (Cond.initialized z.cls).before a0 Z = true) (w4 : (Cond.code z bz mz rz).before a0 Z = true) (hy : x'.cls ≠ "java/lang/invoke/MethodHandle" ∧ x'.cls ≠ "java/lang/invoke/VarHandle") (E : Exa Z h a CC)
    (con : Con l Z rm z bz mz rz n0 as' h (Ret r h)) (hf : rm.frames + 1 ≤ R.frames) (hl : W + (mz + 11) + rm.locals ≤ R.locals) (ek : k + rm.cells = k') (en : n + rm.slots = n') (hc : k' ≤ R.cells) (hn : n' ≤ R.slots) (hsz : L.size = ml) (pd : parseMethodDescriptor x'.desc = some ⟨ps, rt⟩) (hlen : argsL.length = ps.length) (hst : St = argsL.reverse ++ .ref a :: rest) (has : as' = (.ref a :: argsL).toArray) (hW : (rest.map fun v => v.category).sum ≤ W) (hs : r.toList ++ rest = St') (hp : pc + 5 = pc')
    (kt : Go l Z R y bs ml ret n0 Q h k' n' pc' L St') : Go l Z R y bs ml ret n0 Q h k n pc L St := by
  subst hs
  refine callVF hd w1 w2 wf ws wi wp wu wc w3 w4 hy E con hf hl ek en hc hn hsz pd hlen hst has hW hp ?_
  rintro h' v ⟨rfl, rfl⟩
  exact kt
end Laws
end Jvm.OwnW
namespace Jvm.Pilot.@@N@@
open Jvm Jvm.ClassFile Sem Op Lib Jvm.Free Jvm.Stand Jvm.LawKit Jvm.RoadKit Bundle Jvm.OwnW Jvm.Pilot.@@N@@.Jvm.D
theorem pd_28II29C : parseMethodDescriptor "(II)C" = some ⟨[.int, .int], some .char⟩ := by decide +kernel
theorem pd_28IC29I : parseMethodDescriptor "(IC)I" = some ⟨[.int, .char], some .int⟩ := by decide +kernel
theorem pd_28C29Z : parseMethodDescriptor "(C)Z" = some ⟨[.char], some .boolean⟩ := by decide +kernel
theorem pd_28C295bB : parseMethodDescriptor "(C)[B" = some ⟨[.char], some (.array .byte)⟩ := by decide +kernel
theorem pd_285bBB29V : parseMethodDescriptor "([BB)V" = some ⟨[(.array .byte), .byte], none⟩ := by decide +kernel
theorem pd_2829B : parseMethodDescriptor "()B" = some ⟨[], some .byte⟩ := by decide +kernel
theorem pd_28IILjava2futil2ffunction2fBiFunction3b29I : parseMethodDescriptor "(IILjava/util/function/BiFunction;)I" = some ⟨[.int, .int, (.object "java/util/function/BiFunction")], some .int⟩ := by decide +kernel
theorem pd_28II29V : parseMethodDescriptor "(II)V" = some ⟨[.int, .int], none⟩ := by decide +kernel
theorem pd_2829Z : parseMethodDescriptor "()Z" = some ⟨[], some .boolean⟩ := by decide +kernel
theorem pd_285bBI29C : parseMethodDescriptor "([BI)C" = some ⟨[(.array .byte), .int], some .char⟩ := by decide +kernel
theorem pd_2829I : parseMethodDescriptor "()I" = some ⟨[], some .int⟩ := by decide +kernel
theorem pd_28I29C : parseMethodDescriptor "(I)C" = some ⟨[.int], some .char⟩ := by decide +kernel
theorem pd_28I29V : parseMethodDescriptor "(I)V" = some ⟨[.int], none⟩ := by decide +kernel
theorem pd_28ICII29Z : parseMethodDescriptor "(ICII)Z" = some ⟨[.int, .char, .int, .int], some .boolean⟩ := by decide +kernel
theorem pd_28C29Ljava2flang2fString3b : parseMethodDescriptor "(C)Ljava/lang/String;" = some ⟨[.char], some (.object "java/lang/String")⟩ := by decide +kernel
theorem pd_28Ljava2flang2fCharSequence3b29V : parseMethodDescriptor "(Ljava/lang/CharSequence;)V" = some ⟨[(.object "java/lang/CharSequence")], none⟩ := by decide +kernel
theorem pd_28IIJII29C : parseMethodDescriptor "(IIJII)C" = some ⟨[.int, .int, .long, .int, .int], some .char⟩ := by decide +kernel
theorem pd_28Lcom2fexample2fplumbline2fplumbline2fBaseEncoding3b5bB29V : parseMethodDescriptor "(Lcom/example/plumbline/plumbline/BaseEncoding;[B)V" = some ⟨[(.object "com/example/plumbline/plumbline/BaseEncoding"), (.array .byte)], none⟩ := by decide +kernel
theorem d18_0 : decode method_6_code 0 = .ok (.iload_n 0, 1) := by decide +kernel
theorem d18_1 : decode method_6_code 1 = .ok (.ifCond .ne 42, 3) := by decide +kernel
theorem d18_4 : decode method_6_code 4 = .ok (.iload_n 1, 1) := by decide +kernel
theorem d18_5 : decode method_6_code 5 = .ok (.bipush 48, 2) := by decide +kernel
theorem d18_7 : decode method_6_code 7 = .ok (.if_icmp .lt 14, 3) := by decide +kernel
theorem d18_10 : decode method_6_code 10 = .ok (.iload_n 1, 1) := by decide +kernel
theorem d18_11 : decode method_6_code 11 = .ok (.bipush 57, 2) := by decide +kernel
theorem d18_13 : decode method_6_code 13 = .ok (.if_icmp .gt 8, 3) := by decide +kernel
theorem d18_16 : decode method_6_code 16 = .ok (.iload_n 1, 1) := by decide +kernel
theorem d18_17 : decode method_6_code 17 = .ok (.bipush 48, 2) := by decide +kernel
theorem d18_19 : decode method_6_code 19 = .ok (.isub, 1) := by decide +kernel
theorem d18_20 : decode method_6_code 20 = .ok (.ireturn, 1) := by decide +kernel
theorem d18_21 : decode method_6_code 21 = .ok (.iload_n 1, 1) := by decide +kernel
theorem d18_22 : decode method_6_code 22 = .ok (.bipush 97, 2) := by decide +kernel
theorem d18_24 : decode method_6_code 24 = .ok (.if_icmp .lt 17, 3) := by decide +kernel
theorem d18_27 : decode method_6_code 27 = .ok (.iload_n 1, 1) := by decide +kernel
theorem d18_28 : decode method_6_code 28 = .ok (.bipush 102, 2) := by decide +kernel
theorem d18_30 : decode method_6_code 30 = .ok (.if_icmp .gt 11, 3) := by decide +kernel
theorem d18_33 : decode method_6_code 33 = .ok (.iload_n 1, 1) := by decide +kernel
theorem d18_34 : decode method_6_code 34 = .ok (.bipush 97, 2) := by decide +kernel
theorem d18_36 : decode method_6_code 36 = .ok (.isub, 1) := by decide +kernel
theorem d18_37 : decode method_6_code 37 = .ok (.bipush 10, 2) := by decide +kernel
theorem d18_39 : decode method_6_code 39 = .ok (.iadd, 1) := by decide +kernel
theorem d18_40 : decode method_6_code 40 = .ok (.ireturn, 1) := by decide +kernel
theorem d18_41 : decode method_6_code 41 = .ok (.iconst (-1), 1) := by decide +kernel
theorem d18_42 : decode method_6_code 42 = .ok (.ireturn, 1) := by decide +kernel
theorem d18_43 : decode method_6_code 43 = .ok (.iload_n 0, 1) := by decide +kernel
theorem d18_44 : decode method_6_code 44 = .ok (.iconst 1, 1) := by decide +kernel
theorem d18_45 : decode method_6_code 45 = .ok (.if_icmp .ne 42, 3) := by decide +kernel
theorem d18_48 : decode method_6_code 48 = .ok (.iload_n 1, 1) := by decide +kernel
theorem d18_49 : decode method_6_code 49 = .ok (.bipush 97, 2) := by decide +kernel
theorem d18_51 : decode method_6_code 51 = .ok (.if_icmp .lt 14, 3) := by decide +kernel
theorem d18_54 : decode method_6_code 54 = .ok (.iload_n 1, 1) := by decide +kernel
theorem d18_55 : decode method_6_code 55 = .ok (.bipush 122, 2) := by decide +kernel
theorem d18_57 : decode method_6_code 57 = .ok (.if_icmp .gt 8, 3) := by decide +kernel
theorem d18_60 : decode method_6_code 60 = .ok (.iload_n 1, 1) := by decide +kernel
theorem d18_61 : decode method_6_code 61 = .ok (.bipush 97, 2) := by decide +kernel
theorem d18_63 : decode method_6_code 63 = .ok (.isub, 1) := by decide +kernel
theorem d18_64 : decode method_6_code 64 = .ok (.ireturn, 1) := by decide +kernel
theorem d18_65 : decode method_6_code 65 = .ok (.iload_n 1, 1) := by decide +kernel
theorem d18_66 : decode method_6_code 66 = .ok (.bipush 50, 2) := by decide +kernel
theorem d18_68 : decode method_6_code 68 = .ok (.if_icmp .lt 17, 3) := by decide +kernel
theorem d18_71 : decode method_6_code 71 = .ok (.iload_n 1, 1) := by decide +kernel
theorem d18_72 : decode method_6_code 72 = .ok (.bipush 55, 2) := by decide +kernel
theorem d18_74 : decode method_6_code 74 = .ok (.if_icmp .gt 11, 3) := by decide +kernel
theorem d18_77 : decode method_6_code 77 = .ok (.iload_n 1, 1) := by decide +kernel
theorem d18_78 : decode method_6_code 78 = .ok (.bipush 50, 2) := by decide +kernel
theorem d18_80 : decode method_6_code 80 = .ok (.isub, 1) := by decide +kernel
theorem d18_81 : decode method_6_code 81 = .ok (.bipush 26, 2) := by decide +kernel
theorem d18_83 : decode method_6_code 83 = .ok (.iadd, 1) := by decide +kernel
theorem d18_84 : decode method_6_code 84 = .ok (.ireturn, 1) := by decide +kernel
theorem d18_85 : decode method_6_code 85 = .ok (.iconst (-1), 1) := by decide +kernel
theorem d18_86 : decode method_6_code 86 = .ok (.ireturn, 1) := by decide +kernel
theorem d18_87 : decode method_6_code 87 = .ok (.iload_n 1, 1) := by decide +kernel
theorem d18_88 : decode method_6_code 88 = .ok (.bipush 65, 2) := by decide +kernel
theorem d18_90 : decode method_6_code 90 = .ok (.if_icmp .lt 14, 3) := by decide +kernel
theorem d18_93 : decode method_6_code 93 = .ok (.iload_n 1, 1) := by decide +kernel
theorem d18_94 : decode method_6_code 94 = .ok (.bipush 90, 2) := by decide +kernel
theorem d18_96 : decode method_6_code 96 = .ok (.if_icmp .gt 8, 3) := by decide +kernel
theorem d18_99 : decode method_6_code 99 = .ok (.iload_n 1, 1) := by decide +kernel
theorem d18_100 : decode method_6_code 100 = .ok (.bipush 65, 2) := by decide +kernel
theorem d18_102 : decode method_6_code 102 = .ok (.isub, 1) := by decide +kernel
theorem d18_103 : decode method_6_code 103 = .ok (.ireturn, 1) := by decide +kernel
theorem d18_104 : decode method_6_code 104 = .ok (.iload_n 1, 1) := by decide +kernel
theorem d18_105 : decode method_6_code 105 = .ok (.bipush 97, 2) := by decide +kernel
theorem d18_107 : decode method_6_code 107 = .ok (.if_icmp .lt 17, 3) := by decide +kernel
theorem d18_110 : decode method_6_code 110 = .ok (.iload_n 1, 1) := by decide +kernel
theorem d18_111 : decode method_6_code 111 = .ok (.bipush 122, 2) := by decide +kernel
theorem d18_113 : decode method_6_code 113 = .ok (.if_icmp .gt 11, 3) := by decide +kernel
theorem d18_116 : decode method_6_code 116 = .ok (.iload_n 1, 1) := by decide +kernel
theorem d18_117 : decode method_6_code 117 = .ok (.bipush 97, 2) := by decide +kernel
theorem d18_119 : decode method_6_code 119 = .ok (.isub, 1) := by decide +kernel
theorem d18_120 : decode method_6_code 120 = .ok (.bipush 26, 2) := by decide +kernel
theorem d18_122 : decode method_6_code 122 = .ok (.iadd, 1) := by decide +kernel
theorem d18_123 : decode method_6_code 123 = .ok (.ireturn, 1) := by decide +kernel
theorem d18_124 : decode method_6_code 124 = .ok (.iload_n 1, 1) := by decide +kernel
theorem d18_125 : decode method_6_code 125 = .ok (.bipush 48, 2) := by decide +kernel
theorem d18_127 : decode method_6_code 127 = .ok (.if_icmp .lt 17, 3) := by decide +kernel
theorem d18_130 : decode method_6_code 130 = .ok (.iload_n 1, 1) := by decide +kernel
theorem d18_131 : decode method_6_code 131 = .ok (.bipush 57, 2) := by decide +kernel
theorem d18_133 : decode method_6_code 133 = .ok (.if_icmp .gt 11, 3) := by decide +kernel
theorem d18_136 : decode method_6_code 136 = .ok (.iload_n 1, 1) := by decide +kernel
theorem d18_137 : decode method_6_code 137 = .ok (.bipush 48, 2) := by decide +kernel
theorem d18_139 : decode method_6_code 139 = .ok (.isub, 1) := by decide +kernel
theorem d18_140 : decode method_6_code 140 = .ok (.bipush 52, 2) := by decide +kernel
theorem d18_142 : decode method_6_code 142 = .ok (.iadd, 1) := by decide +kernel
theorem d18_143 : decode method_6_code 143 = .ok (.ireturn, 1) := by decide +kernel
theorem d18_144 : decode method_6_code 144 = .ok (.iload_n 1, 1) := by decide +kernel
theorem d18_145 : decode method_6_code 145 = .ok (.bipush 45, 2) := by decide +kernel
theorem d18_147 : decode method_6_code 147 = .ok (.if_icmp .ne 6, 3) := by decide +kernel
theorem d18_150 : decode method_6_code 150 = .ok (.bipush 62, 2) := by decide +kernel
theorem d18_152 : decode method_6_code 152 = .ok (.ireturn, 1) := by decide +kernel
theorem d18_153 : decode method_6_code 153 = .ok (.iload_n 1, 1) := by decide +kernel
theorem d18_154 : decode method_6_code 154 = .ok (.bipush 95, 2) := by decide +kernel
theorem d18_156 : decode method_6_code 156 = .ok (.if_icmp .ne 6, 3) := by decide +kernel
theorem d18_159 : decode method_6_code 159 = .ok (.bipush 63, 2) := by decide +kernel
theorem d18_161 : decode method_6_code 161 = .ok (.ireturn, 1) := by decide +kernel
theorem d18_162 : decode method_6_code 162 = .ok (.iconst (-1), 1) := by decide +kernel
theorem d18_163 : decode method_6_code 163 = .ok (.ireturn, 1) := by decide +kernel
def f18 (q0 : Int32) (q1 : Int32) : Int32 := (if q0 = (0 : Int32) then (if q1 < (48 : Int32) then (if q1 < (97 : Int32) then (-1 : Int32) else (if (102 : Int32) < q1 then (-1 : Int32) else ((q1 - (97 : Int32)) + (10 : Int32)))) else (if (57 : Int32) < q1 then (if q1 < (97 : Int32) then (-1 : Int32) else (if (102 : Int32) < q1 then (-1 : Int32) else ((q1 - (97 : Int32)) + (10 : Int32)))) else (q1 - (48 : Int32)))) else (if q0 = (1 : Int32) then (if q1 < (97 : Int32) then (if q1 < (50 : Int32) then (-1 : Int32) else (if (55 : Int32) < q1 then (-1 : Int32) else ((q1 - (50 : Int32)) + (26 : Int32)))) else (if (122 : Int32) < q1 then (if q1 < (50 : Int32) then (-1 : Int32) else (if (55 : Int32) < q1 then (-1 : Int32) else ((q1 - (50 : Int32)) + (26 : Int32)))) else (q1 - (97 : Int32)))) else (if q1 < (65 : Int32) then (if q1 < (97 : Int32) then (if q1 < (48 : Int32) then (if q1 = (45 : Int32) then (62 : Int32) else (if q1 = (95 : Int32) then (63 : Int32) else (-1 : Int32))) else (if (57 : Int32) < q1 then (if q1 = (45 : Int32) then (62 : Int32) else (if q1 = (95 : Int32) then (63 : Int32) else (-1 : Int32))) else ((q1 - (48 : Int32)) + (52 : Int32)))) else (if (122 : Int32) < q1 then (if q1 < (48 : Int32) then (if q1 = (45 : Int32) then (62 : Int32) else (if q1 = (95 : Int32) then (63 : Int32) else (-1 : Int32))) else (if (57 : Int32) < q1 then (if q1 = (45 : Int32) then (62 : Int32) else (if q1 = (95 : Int32) then (63 : Int32) else (-1 : Int32))) else ((q1 - (48 : Int32)) + (52 : Int32)))) else ((q1 - (97 : Int32)) + (26 : Int32)))) else (if (90 : Int32) < q1 then (if q1 < (97 : Int32) then (if q1 < (48 : Int32) then (if q1 = (45 : Int32) then (62 : Int32) else (if q1 = (95 : Int32) then (63 : Int32) else (-1 : Int32))) else (if (57 : Int32) < q1 then (if q1 = (45 : Int32) then (62 : Int32) else (if q1 = (95 : Int32) then (63 : Int32) else (-1 : Int32))) else ((q1 - (48 : Int32)) + (52 : Int32)))) else (if (122 : Int32) < q1 then (if q1 < (48 : Int32) then (if q1 = (45 : Int32) then (62 : Int32) else (if q1 = (95 : Int32) then (63 : Int32) else (-1 : Int32))) else (if (57 : Int32) < q1 then (if q1 = (45 : Int32) then (62 : Int32) else (if q1 = (95 : Int32) then (63 : Int32) else (-1 : Int32))) else ((q1 - (48 : Int32)) + (52 : Int32)))) else ((q1 - (97 : Int32)) + (26 : Int32)))) else (q1 - (65 : Int32))))))
abbrev GoB18 (l : Launch) (Z : State) (n0 : Nat) (Q : Option Value → Heap → Prop) := Go l Z ({ frames := 0, cells := 0, slots := 0, locals := 0 } : Room) (⟨"com/example/plumbline/plumbline/ReadingIsEncodingPinLaw", "valOf", "(IC)I"⟩ : MethodName) method_6_code 2 (some .int) n0 Q
theorem ef18 (m : MethodId) (q0 : Int32) (q1 : Int32) : entryFrame m #[(.int q0), (.int q1)] 2 = mkF m 0 #[.val (.int q0), .val (.int q1)] [] := by first | (simp [entryFrame, mkF, argsToLocals, Value.category]; done) | rfl
set_option maxRecDepth 65536 in
set_option maxHeartbeats 40000000 in
theorem rm18 (l : Launch) (Z : State) (a0 : Array Value) (hw : ∀ d ∈ tables_1, d.before a0 Z = true) (q0 : Int32) (q1 : Int32) (h0 : Heap) (n0 : Nat) :
    Con l Z ({ frames := 0, cells := 0, slots := 0, locals := 0 } : Room) (⟨"com/example/plumbline/plumbline/ReadingIsEncodingPinLaw", "valOf", "(IC)I"⟩ : MethodName) method_6_code 2 (some .int) n0 #[(.int q0), (.int q1)] h0 (OwnW.Ret (some (.int (f18 q0 q1))) h0) := by
  refine OwnW.Con.of (by first | decide +kernel | exact plainFor_of_name (by simp [plainName, overriddenIn])) (fun m => ef18 m q0 q1) ?_
  show GoB18 l Z n0 (OwnW.Ret (some (.int (f18 q0 q1))) h0) h0 0 0 0 #[.val (.int q0), .val (.int q1)] []
  refine OwnW.iloadN (pc' := 1) d18_0 rfl rfl ?_
  by_cases hc1 : q0 = (0 : Int32)
  ·
    refine OwnW.ifcN (pc' := 4) d18_1 ((if0 _ _).trans (teq hc1).2) rfl ?_
    refine OwnW.iloadN (pc' := 5) d18_4 rfl rfl ?_
    refine OwnW.bipush (pc' := 7) (v := (48 : Int32)) d18_5 rfl rfl ?_
    by_cases hc7 : q1 < (48 : Int32)
    ·
      refine OwnW.icmpY (pc' := 21) d18_7 (tlt hc7).1 (by decide) (by decide) ?_
      refine OwnW.iloadN (pc' := 22) d18_21 rfl rfl ?_
      refine OwnW.bipush (pc' := 24) (v := (97 : Int32)) d18_22 rfl rfl ?_
      by_cases hc24 : q1 < (97 : Int32)
      ·
        refine OwnW.icmpY (pc' := 41) d18_24 (tlt hc24).1 (by decide) (by decide) ?_
        refine OwnW.iconst (pc' := 42) (v := (-1 : Int32)) d18_41 rfl rfl ?_
        exact OwnW.retI d18_42 rfl (by decide) (by decide) (⟨by first | (simp only [f18, if_pos hc1, if_pos hc7, if_pos hc24]; done) | (simp only [f18, if_pos hc1, if_pos hc7, if_pos hc24]; rfl), rfl⟩)
      ·
        refine OwnW.icmpN (pc' := 27) d18_24 (flt hc24).1 rfl ?_
        refine OwnW.iloadN (pc' := 28) d18_27 rfl rfl ?_
        refine OwnW.bipush (pc' := 30) (v := (102 : Int32)) d18_28 rfl rfl ?_
        by_cases hc30 : (102 : Int32) < q1
        ·
          refine OwnW.icmpY (pc' := 41) d18_30 (tlt hc30).2.2.1 (by decide) (by decide) ?_
          refine OwnW.iconst (pc' := 42) (v := (-1 : Int32)) d18_41 rfl rfl ?_
          exact OwnW.retI d18_42 rfl (by decide) (by decide) (⟨by first | (simp only [f18, if_pos hc1, if_pos hc7, if_neg hc24, if_pos hc30]; done) | (simp only [f18, if_pos hc1, if_pos hc7, if_neg hc24, if_pos hc30]; rfl), rfl⟩)
        ·
          refine OwnW.icmpN (pc' := 33) d18_30 (flt hc30).2.2.1 rfl ?_
          refine OwnW.iloadN (pc' := 34) d18_33 rfl rfl ?_
          refine OwnW.bipush (pc' := 36) (v := (97 : Int32)) d18_34 rfl rfl ?_
          refine OwnW.isub (pc' := 37) d18_36 rfl ?_
          refine OwnW.bipush (pc' := 39) (v := (10 : Int32)) d18_37 rfl rfl ?_
          refine OwnW.iadd (pc' := 40) d18_39 rfl ?_
          exact OwnW.retI d18_40 rfl (by decide) (by decide) (⟨by first | (simp only [f18, if_pos hc1, if_pos hc7, if_neg hc24, if_neg hc30]; done) | (simp only [f18, if_pos hc1, if_pos hc7, if_neg hc24, if_neg hc30]; rfl), rfl⟩)
    ·
      refine OwnW.icmpN (pc' := 10) d18_7 (flt hc7).1 rfl ?_
      refine OwnW.iloadN (pc' := 11) d18_10 rfl rfl ?_
      refine OwnW.bipush (pc' := 13) (v := (57 : Int32)) d18_11 rfl rfl ?_
      by_cases hc13 : (57 : Int32) < q1
      ·
        refine OwnW.icmpY (pc' := 21) d18_13 (tlt hc13).2.2.1 (by decide) (by decide) ?_
        refine OwnW.iloadN (pc' := 22) d18_21 rfl rfl ?_
        refine OwnW.bipush (pc' := 24) (v := (97 : Int32)) d18_22 rfl rfl ?_
        by_cases hc24 : q1 < (97 : Int32)
        ·
          refine OwnW.icmpY (pc' := 41) d18_24 (tlt hc24).1 (by decide) (by decide) ?_
          refine OwnW.iconst (pc' := 42) (v := (-1 : Int32)) d18_41 rfl rfl ?_
          exact OwnW.retI d18_42 rfl (by decide) (by decide) (⟨by first | (simp only [f18, if_pos hc1, if_neg hc7, if_pos hc13, if_pos hc24]; done) | (simp only [f18, if_pos hc1, if_neg hc7, if_pos hc13, if_pos hc24]; rfl), rfl⟩)
        ·
          refine OwnW.icmpN (pc' := 27) d18_24 (flt hc24).1 rfl ?_
          refine OwnW.iloadN (pc' := 28) d18_27 rfl rfl ?_
          refine OwnW.bipush (pc' := 30) (v := (102 : Int32)) d18_28 rfl rfl ?_
          by_cases hc30 : (102 : Int32) < q1
          ·
            refine OwnW.icmpY (pc' := 41) d18_30 (tlt hc30).2.2.1 (by decide) (by decide) ?_
            refine OwnW.iconst (pc' := 42) (v := (-1 : Int32)) d18_41 rfl rfl ?_
            exact OwnW.retI d18_42 rfl (by decide) (by decide) (⟨by first | (simp only [f18, if_pos hc1, if_neg hc7, if_pos hc13, if_neg hc24, if_pos hc30]; done) | (simp only [f18, if_pos hc1, if_neg hc7, if_pos hc13, if_neg hc24, if_pos hc30]; rfl), rfl⟩)
          ·
            refine OwnW.icmpN (pc' := 33) d18_30 (flt hc30).2.2.1 rfl ?_
            refine OwnW.iloadN (pc' := 34) d18_33 rfl rfl ?_
            refine OwnW.bipush (pc' := 36) (v := (97 : Int32)) d18_34 rfl rfl ?_
            refine OwnW.isub (pc' := 37) d18_36 rfl ?_
            refine OwnW.bipush (pc' := 39) (v := (10 : Int32)) d18_37 rfl rfl ?_
            refine OwnW.iadd (pc' := 40) d18_39 rfl ?_
            exact OwnW.retI d18_40 rfl (by decide) (by decide) (⟨by first | (simp only [f18, if_pos hc1, if_neg hc7, if_pos hc13, if_neg hc24, if_neg hc30]; done) | (simp only [f18, if_pos hc1, if_neg hc7, if_pos hc13, if_neg hc24, if_neg hc30]; rfl), rfl⟩)
      ·
        refine OwnW.icmpN (pc' := 16) d18_13 (flt hc13).2.2.1 rfl ?_
        refine OwnW.iloadN (pc' := 17) d18_16 rfl rfl ?_
        refine OwnW.bipush (pc' := 19) (v := (48 : Int32)) d18_17 rfl rfl ?_
        refine OwnW.isub (pc' := 20) d18_19 rfl ?_
        exact OwnW.retI d18_20 rfl (by decide) (by decide) (⟨by first | (simp only [f18, if_pos hc1, if_neg hc7, if_neg hc13]; done) | (simp only [f18, if_pos hc1, if_neg hc7, if_neg hc13]; rfl), rfl⟩)
  ·
    refine OwnW.ifcY (pc' := 43) d18_1 ((if0 _ _).trans (feq hc1).2) (by decide) (by decide) ?_
    refine OwnW.iloadN (pc' := 44) d18_43 rfl rfl ?_
    refine OwnW.iconst (pc' := 45) (v := (1 : Int32)) d18_44 rfl rfl ?_
    by_cases hc45 : q0 = (1 : Int32)
    ·
      refine OwnW.icmpN (pc' := 48) d18_45 (teq hc45).2 rfl ?_
      refine OwnW.iloadN (pc' := 49) d18_48 rfl rfl ?_
      refine OwnW.bipush (pc' := 51) (v := (97 : Int32)) d18_49 rfl rfl ?_
      by_cases hc51 : q1 < (97 : Int32)
      ·
        refine OwnW.icmpY (pc' := 65) d18_51 (tlt hc51).1 (by decide) (by decide) ?_
        refine OwnW.iloadN (pc' := 66) d18_65 rfl rfl ?_
        refine OwnW.bipush (pc' := 68) (v := (50 : Int32)) d18_66 rfl rfl ?_
        by_cases hc68 : q1 < (50 : Int32)
        ·
          refine OwnW.icmpY (pc' := 85) d18_68 (tlt hc68).1 (by decide) (by decide) ?_
          refine OwnW.iconst (pc' := 86) (v := (-1 : Int32)) d18_85 rfl rfl ?_
          exact OwnW.retI d18_86 rfl (by decide) (by decide) (⟨by first | (simp only [f18, if_neg hc1, if_pos hc45, if_pos hc51, if_pos hc68]; done) | (simp only [f18, if_neg hc1, if_pos hc45, if_pos hc51, if_pos hc68]; rfl), rfl⟩)
        ·
          refine OwnW.icmpN (pc' := 71) d18_68 (flt hc68).1 rfl ?_
          refine OwnW.iloadN (pc' := 72) d18_71 rfl rfl ?_
          refine OwnW.bipush (pc' := 74) (v := (55 : Int32)) d18_72 rfl rfl ?_
          by_cases hc74 : (55 : Int32) < q1
          ·
            refine OwnW.icmpY (pc' := 85) d18_74 (tlt hc74).2.2.1 (by decide) (by decide) ?_
            refine OwnW.iconst (pc' := 86) (v := (-1 : Int32)) d18_85 rfl rfl ?_
            exact OwnW.retI d18_86 rfl (by decide) (by decide) (⟨by first | (simp only [f18, if_neg hc1, if_pos hc45, if_pos hc51, if_neg hc68, if_pos hc74]; done) | (simp only [f18, if_neg hc1, if_pos hc45, if_pos hc51, if_neg hc68, if_pos hc74]; rfl), rfl⟩)
          ·
            refine OwnW.icmpN (pc' := 77) d18_74 (flt hc74).2.2.1 rfl ?_
            refine OwnW.iloadN (pc' := 78) d18_77 rfl rfl ?_
            refine OwnW.bipush (pc' := 80) (v := (50 : Int32)) d18_78 rfl rfl ?_
            refine OwnW.isub (pc' := 81) d18_80 rfl ?_
            refine OwnW.bipush (pc' := 83) (v := (26 : Int32)) d18_81 rfl rfl ?_
            refine OwnW.iadd (pc' := 84) d18_83 rfl ?_
            exact OwnW.retI d18_84 rfl (by decide) (by decide) (⟨by first | (simp only [f18, if_neg hc1, if_pos hc45, if_pos hc51, if_neg hc68, if_neg hc74]; done) | (simp only [f18, if_neg hc1, if_pos hc45, if_pos hc51, if_neg hc68, if_neg hc74]; rfl), rfl⟩)
      ·
        refine OwnW.icmpN (pc' := 54) d18_51 (flt hc51).1 rfl ?_
        refine OwnW.iloadN (pc' := 55) d18_54 rfl rfl ?_
        refine OwnW.bipush (pc' := 57) (v := (122 : Int32)) d18_55 rfl rfl ?_
        by_cases hc57 : (122 : Int32) < q1
        ·
          refine OwnW.icmpY (pc' := 65) d18_57 (tlt hc57).2.2.1 (by decide) (by decide) ?_
          refine OwnW.iloadN (pc' := 66) d18_65 rfl rfl ?_
          refine OwnW.bipush (pc' := 68) (v := (50 : Int32)) d18_66 rfl rfl ?_
          by_cases hc68 : q1 < (50 : Int32)
          ·
            refine OwnW.icmpY (pc' := 85) d18_68 (tlt hc68).1 (by decide) (by decide) ?_
            refine OwnW.iconst (pc' := 86) (v := (-1 : Int32)) d18_85 rfl rfl ?_
            exact OwnW.retI d18_86 rfl (by decide) (by decide) (⟨by first | (simp only [f18, if_neg hc1, if_pos hc45, if_neg hc51, if_pos hc57, if_pos hc68]; done) | (simp only [f18, if_neg hc1, if_pos hc45, if_neg hc51, if_pos hc57, if_pos hc68]; rfl), rfl⟩)
          ·
            refine OwnW.icmpN (pc' := 71) d18_68 (flt hc68).1 rfl ?_
            refine OwnW.iloadN (pc' := 72) d18_71 rfl rfl ?_
            refine OwnW.bipush (pc' := 74) (v := (55 : Int32)) d18_72 rfl rfl ?_
            by_cases hc74 : (55 : Int32) < q1
            ·
              refine OwnW.icmpY (pc' := 85) d18_74 (tlt hc74).2.2.1 (by decide) (by decide) ?_
              refine OwnW.iconst (pc' := 86) (v := (-1 : Int32)) d18_85 rfl rfl ?_
              exact OwnW.retI d18_86 rfl (by decide) (by decide) (⟨by first | (simp only [f18, if_neg hc1, if_pos hc45, if_neg hc51, if_pos hc57, if_neg hc68, if_pos hc74]; done) | (simp only [f18, if_neg hc1, if_pos hc45, if_neg hc51, if_pos hc57, if_neg hc68, if_pos hc74]; rfl), rfl⟩)
            ·
              refine OwnW.icmpN (pc' := 77) d18_74 (flt hc74).2.2.1 rfl ?_
              refine OwnW.iloadN (pc' := 78) d18_77 rfl rfl ?_
              refine OwnW.bipush (pc' := 80) (v := (50 : Int32)) d18_78 rfl rfl ?_
              refine OwnW.isub (pc' := 81) d18_80 rfl ?_
              refine OwnW.bipush (pc' := 83) (v := (26 : Int32)) d18_81 rfl rfl ?_
              refine OwnW.iadd (pc' := 84) d18_83 rfl ?_
              exact OwnW.retI d18_84 rfl (by decide) (by decide) (⟨by first | (simp only [f18, if_neg hc1, if_pos hc45, if_neg hc51, if_pos hc57, if_neg hc68, if_neg hc74]; done) | (simp only [f18, if_neg hc1, if_pos hc45, if_neg hc51, if_pos hc57, if_neg hc68, if_neg hc74]; rfl), rfl⟩)
        ·
          refine OwnW.icmpN (pc' := 60) d18_57 (flt hc57).2.2.1 rfl ?_
          refine OwnW.iloadN (pc' := 61) d18_60 rfl rfl ?_
          refine OwnW.bipush (pc' := 63) (v := (97 : Int32)) d18_61 rfl rfl ?_
          refine OwnW.isub (pc' := 64) d18_63 rfl ?_
          exact OwnW.retI d18_64 rfl (by decide) (by decide) (⟨by first | (simp only [f18, if_neg hc1, if_pos hc45, if_neg hc51, if_neg hc57]; done) | (simp only [f18, if_neg hc1, if_pos hc45, if_neg hc51, if_neg hc57]; rfl), rfl⟩)
    ·
      refine OwnW.icmpY (pc' := 87) d18_45 (feq hc45).2 (by decide) (by decide) ?_
      refine OwnW.iloadN (pc' := 88) d18_87 rfl rfl ?_
      refine OwnW.bipush (pc' := 90) (v := (65 : Int32)) d18_88 rfl rfl ?_
      by_cases hc90 : q1 < (65 : Int32)
      ·
        refine OwnW.icmpY (pc' := 104) d18_90 (tlt hc90).1 (by decide) (by decide) ?_
        refine OwnW.iloadN (pc' := 105) d18_104 rfl rfl ?_
        refine OwnW.bipush (pc' := 107) (v := (97 : Int32)) d18_105 rfl rfl ?_
        by_cases hc107 : q1 < (97 : Int32)
        ·
          refine OwnW.icmpY (pc' := 124) d18_107 (tlt hc107).1 (by decide) (by decide) ?_
          refine OwnW.iloadN (pc' := 125) d18_124 rfl rfl ?_
          refine OwnW.bipush (pc' := 127) (v := (48 : Int32)) d18_125 rfl rfl ?_
          by_cases hc127 : q1 < (48 : Int32)
          ·
            refine OwnW.icmpY (pc' := 144) d18_127 (tlt hc127).1 (by decide) (by decide) ?_
            refine OwnW.iloadN (pc' := 145) d18_144 rfl rfl ?_
            refine OwnW.bipush (pc' := 147) (v := (45 : Int32)) d18_145 rfl rfl ?_
            by_cases hc147 : q1 = (45 : Int32)
            ·
              refine OwnW.icmpN (pc' := 150) d18_147 (teq hc147).2 rfl ?_
              refine OwnW.bipush (pc' := 152) (v := (62 : Int32)) d18_150 rfl rfl ?_
              exact OwnW.retI d18_152 rfl (by decide) (by decide) (⟨by first | (simp only [f18, if_neg hc1, if_neg hc45, if_pos hc90, if_pos hc107, if_pos hc127, if_pos hc147]; done) | (simp only [f18, if_neg hc1, if_neg hc45, if_pos hc90, if_pos hc107, if_pos hc127, if_pos hc147]; rfl), rfl⟩)
            ·
              refine OwnW.icmpY (pc' := 153) d18_147 (feq hc147).2 (by decide) (by decide) ?_
              refine OwnW.iloadN (pc' := 154) d18_153 rfl rfl ?_
              refine OwnW.bipush (pc' := 156) (v := (95 : Int32)) d18_154 rfl rfl ?_
              by_cases hc156 : q1 = (95 : Int32)
              ·
                refine OwnW.icmpN (pc' := 159) d18_156 (teq hc156).2 rfl ?_
                refine OwnW.bipush (pc' := 161) (v := (63 : Int32)) d18_159 rfl rfl ?_
                exact OwnW.retI d18_161 rfl (by decide) (by decide) (⟨by first | (simp only [f18, if_neg hc1, if_neg hc45, if_pos hc90, if_pos hc107, if_pos hc127, if_neg hc147, if_pos hc156]; done) | (simp only [f18, if_neg hc1, if_neg hc45, if_pos hc90, if_pos hc107, if_pos hc127, if_neg hc147, if_pos hc156]; rfl), rfl⟩)
              ·
                refine OwnW.icmpY (pc' := 162) d18_156 (feq hc156).2 (by decide) (by decide) ?_
                refine OwnW.iconst (pc' := 163) (v := (-1 : Int32)) d18_162 rfl rfl ?_
                exact OwnW.retI d18_163 rfl (by decide) (by decide) (⟨by first | (simp only [f18, if_neg hc1, if_neg hc45, if_pos hc90, if_pos hc107, if_pos hc127, if_neg hc147, if_neg hc156]; done) | (simp only [f18, if_neg hc1, if_neg hc45, if_pos hc90, if_pos hc107, if_pos hc127, if_neg hc147, if_neg hc156]; rfl), rfl⟩)
          ·
            refine OwnW.icmpN (pc' := 130) d18_127 (flt hc127).1 rfl ?_
            refine OwnW.iloadN (pc' := 131) d18_130 rfl rfl ?_
            refine OwnW.bipush (pc' := 133) (v := (57 : Int32)) d18_131 rfl rfl ?_
            by_cases hc133 : (57 : Int32) < q1
            ·
              refine OwnW.icmpY (pc' := 144) d18_133 (tlt hc133).2.2.1 (by decide) (by decide) ?_
              refine OwnW.iloadN (pc' := 145) d18_144 rfl rfl ?_
              refine OwnW.bipush (pc' := 147) (v := (45 : Int32)) d18_145 rfl rfl ?_
              by_cases hc147 : q1 = (45 : Int32)
              ·
                refine OwnW.icmpN (pc' := 150) d18_147 (teq hc147).2 rfl ?_
                refine OwnW.bipush (pc' := 152) (v := (62 : Int32)) d18_150 rfl rfl ?_
                exact OwnW.retI d18_152 rfl (by decide) (by decide) (⟨by first | (simp only [f18, if_neg hc1, if_neg hc45, if_pos hc90, if_pos hc107, if_neg hc127, if_pos hc133, if_pos hc147]; done) | (simp only [f18, if_neg hc1, if_neg hc45, if_pos hc90, if_pos hc107, if_neg hc127, if_pos hc133, if_pos hc147]; rfl), rfl⟩)
              ·
                refine OwnW.icmpY (pc' := 153) d18_147 (feq hc147).2 (by decide) (by decide) ?_
                refine OwnW.iloadN (pc' := 154) d18_153 rfl rfl ?_
                refine OwnW.bipush (pc' := 156) (v := (95 : Int32)) d18_154 rfl rfl ?_
                by_cases hc156 : q1 = (95 : Int32)
                ·
                  refine OwnW.icmpN (pc' := 159) d18_156 (teq hc156).2 rfl ?_
                  refine OwnW.bipush (pc' := 161) (v := (63 : Int32)) d18_159 rfl rfl ?_
                  exact OwnW.retI d18_161 rfl (by decide) (by decide) (⟨by first | (simp only [f18, if_neg hc1, if_neg hc45, if_pos hc90, if_pos hc107, if_neg hc127, if_pos hc133, if_neg hc147, if_pos hc156]; done) | (simp only [f18, if_neg hc1, if_neg hc45, if_pos hc90, if_pos hc107, if_neg hc127, if_pos hc133, if_neg hc147, if_pos hc156]; rfl), rfl⟩)
                ·
                  refine OwnW.icmpY (pc' := 162) d18_156 (feq hc156).2 (by decide) (by decide) ?_
                  refine OwnW.iconst (pc' := 163) (v := (-1 : Int32)) d18_162 rfl rfl ?_
                  exact OwnW.retI d18_163 rfl (by decide) (by decide) (⟨by first | (simp only [f18, if_neg hc1, if_neg hc45, if_pos hc90, if_pos hc107, if_neg hc127, if_pos hc133, if_neg hc147, if_neg hc156]; done) | (simp only [f18, if_neg hc1, if_neg hc45, if_pos hc90, if_pos hc107, if_neg hc127, if_pos hc133, if_neg hc147, if_neg hc156]; rfl), rfl⟩)
            ·
              refine OwnW.icmpN (pc' := 136) d18_133 (flt hc133).2.2.1 rfl ?_
              refine OwnW.iloadN (pc' := 137) d18_136 rfl rfl ?_
              refine OwnW.bipush (pc' := 139) (v := (48 : Int32)) d18_137 rfl rfl ?_
              refine OwnW.isub (pc' := 140) d18_139 rfl ?_
              refine OwnW.bipush (pc' := 142) (v := (52 : Int32)) d18_140 rfl rfl ?_
              refine OwnW.iadd (pc' := 143) d18_142 rfl ?_
              exact OwnW.retI d18_143 rfl (by decide) (by decide) (⟨by first | (simp only [f18, if_neg hc1, if_neg hc45, if_pos hc90, if_pos hc107, if_neg hc127, if_neg hc133]; done) | (simp only [f18, if_neg hc1, if_neg hc45, if_pos hc90, if_pos hc107, if_neg hc127, if_neg hc133]; rfl), rfl⟩)
        ·
          refine OwnW.icmpN (pc' := 110) d18_107 (flt hc107).1 rfl ?_
          refine OwnW.iloadN (pc' := 111) d18_110 rfl rfl ?_
          refine OwnW.bipush (pc' := 113) (v := (122 : Int32)) d18_111 rfl rfl ?_
          by_cases hc113 : (122 : Int32) < q1
          ·
            refine OwnW.icmpY (pc' := 124) d18_113 (tlt hc113).2.2.1 (by decide) (by decide) ?_
            refine OwnW.iloadN (pc' := 125) d18_124 rfl rfl ?_
            refine OwnW.bipush (pc' := 127) (v := (48 : Int32)) d18_125 rfl rfl ?_
            by_cases hc127 : q1 < (48 : Int32)
            ·
              refine OwnW.icmpY (pc' := 144) d18_127 (tlt hc127).1 (by decide) (by decide) ?_
              refine OwnW.iloadN (pc' := 145) d18_144 rfl rfl ?_
              refine OwnW.bipush (pc' := 147) (v := (45 : Int32)) d18_145 rfl rfl ?_
              by_cases hc147 : q1 = (45 : Int32)
              ·
                refine OwnW.icmpN (pc' := 150) d18_147 (teq hc147).2 rfl ?_
                refine OwnW.bipush (pc' := 152) (v := (62 : Int32)) d18_150 rfl rfl ?_
                exact OwnW.retI d18_152 rfl (by decide) (by decide) (⟨by first | (simp only [f18, if_neg hc1, if_neg hc45, if_pos hc90, if_neg hc107, if_pos hc113, if_pos hc127, if_pos hc147]; done) | (simp only [f18, if_neg hc1, if_neg hc45, if_pos hc90, if_neg hc107, if_pos hc113, if_pos hc127, if_pos hc147]; rfl), rfl⟩)
              ·
                refine OwnW.icmpY (pc' := 153) d18_147 (feq hc147).2 (by decide) (by decide) ?_
                refine OwnW.iloadN (pc' := 154) d18_153 rfl rfl ?_
                refine OwnW.bipush (pc' := 156) (v := (95 : Int32)) d18_154 rfl rfl ?_
                by_cases hc156 : q1 = (95 : Int32)
                ·
                  refine OwnW.icmpN (pc' := 159) d18_156 (teq hc156).2 rfl ?_
                  refine OwnW.bipush (pc' := 161) (v := (63 : Int32)) d18_159 rfl rfl ?_
                  exact OwnW.retI d18_161 rfl (by decide) (by decide) (⟨by first | (simp only [f18, if_neg hc1, if_neg hc45, if_pos hc90, if_neg hc107, if_pos hc113, if_pos hc127, if_neg hc147, if_pos hc156]; done) | (simp only [f18, if_neg hc1, if_neg hc45, if_pos hc90, if_neg hc107, if_pos hc113, if_pos hc127, if_neg hc147, if_pos hc156]; rfl), rfl⟩)
                ·
                  refine OwnW.icmpY (pc' := 162) d18_156 (feq hc156).2 (by decide) (by decide) ?_
                  refine OwnW.iconst (pc' := 163) (v := (-1 : Int32)) d18_162 rfl rfl ?_
                  exact OwnW.retI d18_163 rfl (by decide) (by decide) (⟨by first | (simp only [f18, if_neg hc1, if_neg hc45, if_pos hc90, if_neg hc107, if_pos hc113, if_pos hc127, if_neg hc147, if_neg hc156]; done) | (simp only [f18, if_neg hc1, if_neg hc45, if_pos hc90, if_neg hc107, if_pos hc113, if_pos hc127, if_neg hc147, if_neg hc156]; rfl), rfl⟩)
            ·
              refine OwnW.icmpN (pc' := 130) d18_127 (flt hc127).1 rfl ?_
              refine OwnW.iloadN (pc' := 131) d18_130 rfl rfl ?_
              refine OwnW.bipush (pc' := 133) (v := (57 : Int32)) d18_131 rfl rfl ?_
              by_cases hc133 : (57 : Int32) < q1
              ·
                refine OwnW.icmpY (pc' := 144) d18_133 (tlt hc133).2.2.1 (by decide) (by decide) ?_
                refine OwnW.iloadN (pc' := 145) d18_144 rfl rfl ?_
                refine OwnW.bipush (pc' := 147) (v := (45 : Int32)) d18_145 rfl rfl ?_
                by_cases hc147 : q1 = (45 : Int32)
                ·
                  refine OwnW.icmpN (pc' := 150) d18_147 (teq hc147).2 rfl ?_
                  refine OwnW.bipush (pc' := 152) (v := (62 : Int32)) d18_150 rfl rfl ?_
                  exact OwnW.retI d18_152 rfl (by decide) (by decide) (⟨by first | (simp only [f18, if_neg hc1, if_neg hc45, if_pos hc90, if_neg hc107, if_pos hc113, if_neg hc127, if_pos hc133, if_pos hc147]; done) | (simp only [f18, if_neg hc1, if_neg hc45, if_pos hc90, if_neg hc107, if_pos hc113, if_neg hc127, if_pos hc133, if_pos hc147]; rfl), rfl⟩)
                ·
                  refine OwnW.icmpY (pc' := 153) d18_147 (feq hc147).2 (by decide) (by decide) ?_
                  refine OwnW.iloadN (pc' := 154) d18_153 rfl rfl ?_
                  refine OwnW.bipush (pc' := 156) (v := (95 : Int32)) d18_154 rfl rfl ?_
                  by_cases hc156 : q1 = (95 : Int32)
                  ·
                    refine OwnW.icmpN (pc' := 159) d18_156 (teq hc156).2 rfl ?_
                    refine OwnW.bipush (pc' := 161) (v := (63 : Int32)) d18_159 rfl rfl ?_
                    exact OwnW.retI d18_161 rfl (by decide) (by decide) (⟨by first | (simp only [f18, if_neg hc1, if_neg hc45, if_pos hc90, if_neg hc107, if_pos hc113, if_neg hc127, if_pos hc133, if_neg hc147, if_pos hc156]; done) | (simp only [f18, if_neg hc1, if_neg hc45, if_pos hc90, if_neg hc107, if_pos hc113, if_neg hc127, if_pos hc133, if_neg hc147, if_pos hc156]; rfl), rfl⟩)
                  ·
                    refine OwnW.icmpY (pc' := 162) d18_156 (feq hc156).2 (by decide) (by decide) ?_
                    refine OwnW.iconst (pc' := 163) (v := (-1 : Int32)) d18_162 rfl rfl ?_
                    exact OwnW.retI d18_163 rfl (by decide) (by decide) (⟨by first | (simp only [f18, if_neg hc1, if_neg hc45, if_pos hc90, if_neg hc107, if_pos hc113, if_neg hc127, if_pos hc133, if_neg hc147, if_neg hc156]; done) | (simp only [f18, if_neg hc1, if_neg hc45, if_pos hc90, if_neg hc107, if_pos hc113, if_neg hc127, if_pos hc133, if_neg hc147, if_neg hc156]; rfl), rfl⟩)
              ·
                refine OwnW.icmpN (pc' := 136) d18_133 (flt hc133).2.2.1 rfl ?_
                refine OwnW.iloadN (pc' := 137) d18_136 rfl rfl ?_
                refine OwnW.bipush (pc' := 139) (v := (48 : Int32)) d18_137 rfl rfl ?_
                refine OwnW.isub (pc' := 140) d18_139 rfl ?_
                refine OwnW.bipush (pc' := 142) (v := (52 : Int32)) d18_140 rfl rfl ?_
                refine OwnW.iadd (pc' := 143) d18_142 rfl ?_
                exact OwnW.retI d18_143 rfl (by decide) (by decide) (⟨by first | (simp only [f18, if_neg hc1, if_neg hc45, if_pos hc90, if_neg hc107, if_pos hc113, if_neg hc127, if_neg hc133]; done) | (simp only [f18, if_neg hc1, if_neg hc45, if_pos hc90, if_neg hc107, if_pos hc113, if_neg hc127, if_neg hc133]; rfl), rfl⟩)
          ·
            refine OwnW.icmpN (pc' := 116) d18_113 (flt hc113).2.2.1 rfl ?_
            refine OwnW.iloadN (pc' := 117) d18_116 rfl rfl ?_
            refine OwnW.bipush (pc' := 119) (v := (97 : Int32)) d18_117 rfl rfl ?_
            refine OwnW.isub (pc' := 120) d18_119 rfl ?_
            refine OwnW.bipush (pc' := 122) (v := (26 : Int32)) d18_120 rfl rfl ?_
            refine OwnW.iadd (pc' := 123) d18_122 rfl ?_
            exact OwnW.retI d18_123 rfl (by decide) (by decide) (⟨by first | (simp only [f18, if_neg hc1, if_neg hc45, if_pos hc90, if_neg hc107, if_neg hc113]; done) | (simp only [f18, if_neg hc1, if_neg hc45, if_pos hc90, if_neg hc107, if_neg hc113]; rfl), rfl⟩)
      ·
        refine OwnW.icmpN (pc' := 93) d18_90 (flt hc90).1 rfl ?_
        refine OwnW.iloadN (pc' := 94) d18_93 rfl rfl ?_
        refine OwnW.bipush (pc' := 96) (v := (90 : Int32)) d18_94 rfl rfl ?_
        by_cases hc96 : (90 : Int32) < q1
        ·
          refine OwnW.icmpY (pc' := 104) d18_96 (tlt hc96).2.2.1 (by decide) (by decide) ?_
          refine OwnW.iloadN (pc' := 105) d18_104 rfl rfl ?_
          refine OwnW.bipush (pc' := 107) (v := (97 : Int32)) d18_105 rfl rfl ?_
          by_cases hc107 : q1 < (97 : Int32)
          ·
            refine OwnW.icmpY (pc' := 124) d18_107 (tlt hc107).1 (by decide) (by decide) ?_
            refine OwnW.iloadN (pc' := 125) d18_124 rfl rfl ?_
            refine OwnW.bipush (pc' := 127) (v := (48 : Int32)) d18_125 rfl rfl ?_
            by_cases hc127 : q1 < (48 : Int32)
            ·
              refine OwnW.icmpY (pc' := 144) d18_127 (tlt hc127).1 (by decide) (by decide) ?_
              refine OwnW.iloadN (pc' := 145) d18_144 rfl rfl ?_
              refine OwnW.bipush (pc' := 147) (v := (45 : Int32)) d18_145 rfl rfl ?_
              by_cases hc147 : q1 = (45 : Int32)
              ·
                refine OwnW.icmpN (pc' := 150) d18_147 (teq hc147).2 rfl ?_
                refine OwnW.bipush (pc' := 152) (v := (62 : Int32)) d18_150 rfl rfl ?_
                exact OwnW.retI d18_152 rfl (by decide) (by decide) (⟨by first | (simp only [f18, if_neg hc1, if_neg hc45, if_neg hc90, if_pos hc96, if_pos hc107, if_pos hc127, if_pos hc147]; done) | (simp only [f18, if_neg hc1, if_neg hc45, if_neg hc90, if_pos hc96, if_pos hc107, if_pos hc127, if_pos hc147]; rfl), rfl⟩)
              ·
                refine OwnW.icmpY (pc' := 153) d18_147 (feq hc147).2 (by decide) (by decide) ?_
                refine OwnW.iloadN (pc' := 154) d18_153 rfl rfl ?_
                refine OwnW.bipush (pc' := 156) (v := (95 : Int32)) d18_154 rfl rfl ?_
                by_cases hc156 : q1 = (95 : Int32)
                ·
                  refine OwnW.icmpN (pc' := 159) d18_156 (teq hc156).2 rfl ?_
                  refine OwnW.bipush (pc' := 161) (v := (63 : Int32)) d18_159 rfl rfl ?_
                  exact OwnW.retI d18_161 rfl (by decide) (by decide) (⟨by first | (simp only [f18, if_neg hc1, if_neg hc45, if_neg hc90, if_pos hc96, if_pos hc107, if_pos hc127, if_neg hc147, if_pos hc156]; done) | (simp only [f18, if_neg hc1, if_neg hc45, if_neg hc90, if_pos hc96, if_pos hc107, if_pos hc127, if_neg hc147, if_pos hc156]; rfl), rfl⟩)
                ·
                  refine OwnW.icmpY (pc' := 162) d18_156 (feq hc156).2 (by decide) (by decide) ?_
                  refine OwnW.iconst (pc' := 163) (v := (-1 : Int32)) d18_162 rfl rfl ?_
                  exact OwnW.retI d18_163 rfl (by decide) (by decide) (⟨by first | (simp only [f18, if_neg hc1, if_neg hc45, if_neg hc90, if_pos hc96, if_pos hc107, if_pos hc127, if_neg hc147, if_neg hc156]; done) | (simp only [f18, if_neg hc1, if_neg hc45, if_neg hc90, if_pos hc96, if_pos hc107, if_pos hc127, if_neg hc147, if_neg hc156]; rfl), rfl⟩)
            ·
              refine OwnW.icmpN (pc' := 130) d18_127 (flt hc127).1 rfl ?_
              refine OwnW.iloadN (pc' := 131) d18_130 rfl rfl ?_
              refine OwnW.bipush (pc' := 133) (v := (57 : Int32)) d18_131 rfl rfl ?_
              by_cases hc133 : (57 : Int32) < q1
              ·
                refine OwnW.icmpY (pc' := 144) d18_133 (tlt hc133).2.2.1 (by decide) (by decide) ?_
                refine OwnW.iloadN (pc' := 145) d18_144 rfl rfl ?_
                refine OwnW.bipush (pc' := 147) (v := (45 : Int32)) d18_145 rfl rfl ?_
                by_cases hc147 : q1 = (45 : Int32)
                ·
                  refine OwnW.icmpN (pc' := 150) d18_147 (teq hc147).2 rfl ?_
                  refine OwnW.bipush (pc' := 152) (v := (62 : Int32)) d18_150 rfl rfl ?_
                  exact OwnW.retI d18_152 rfl (by decide) (by decide) (⟨by first | (simp only [f18, if_neg hc1, if_neg hc45, if_neg hc90, if_pos hc96, if_pos hc107, if_neg hc127, if_pos hc133, if_pos hc147]; done) | (simp only [f18, if_neg hc1, if_neg hc45, if_neg hc90, if_pos hc96, if_pos hc107, if_neg hc127, if_pos hc133, if_pos hc147]; rfl), rfl⟩)
                ·
                  refine OwnW.icmpY (pc' := 153) d18_147 (feq hc147).2 (by decide) (by decide) ?_
                  refine OwnW.iloadN (pc' := 154) d18_153 rfl rfl ?_
                  refine OwnW.bipush (pc' := 156) (v := (95 : Int32)) d18_154 rfl rfl ?_
                  by_cases hc156 : q1 = (95 : Int32)
                  ·
                    refine OwnW.icmpN (pc' := 159) d18_156 (teq hc156).2 rfl ?_
                    refine OwnW.bipush (pc' := 161) (v := (63 : Int32)) d18_159 rfl rfl ?_
                    exact OwnW.retI d18_161 rfl (by decide) (by decide) (⟨by first | (simp only [f18, if_neg hc1, if_neg hc45, if_neg hc90, if_pos hc96, if_pos hc107, if_neg hc127, if_pos hc133, if_neg hc147, if_pos hc156]; done) | (simp only [f18, if_neg hc1, if_neg hc45, if_neg hc90, if_pos hc96, if_pos hc107, if_neg hc127, if_pos hc133, if_neg hc147, if_pos hc156]; rfl), rfl⟩)
                  ·
                    refine OwnW.icmpY (pc' := 162) d18_156 (feq hc156).2 (by decide) (by decide) ?_
                    refine OwnW.iconst (pc' := 163) (v := (-1 : Int32)) d18_162 rfl rfl ?_
                    exact OwnW.retI d18_163 rfl (by decide) (by decide) (⟨by first | (simp only [f18, if_neg hc1, if_neg hc45, if_neg hc90, if_pos hc96, if_pos hc107, if_neg hc127, if_pos hc133, if_neg hc147, if_neg hc156]; done) | (simp only [f18, if_neg hc1, if_neg hc45, if_neg hc90, if_pos hc96, if_pos hc107, if_neg hc127, if_pos hc133, if_neg hc147, if_neg hc156]; rfl), rfl⟩)
              ·
                refine OwnW.icmpN (pc' := 136) d18_133 (flt hc133).2.2.1 rfl ?_
                refine OwnW.iloadN (pc' := 137) d18_136 rfl rfl ?_
                refine OwnW.bipush (pc' := 139) (v := (48 : Int32)) d18_137 rfl rfl ?_
                refine OwnW.isub (pc' := 140) d18_139 rfl ?_
                refine OwnW.bipush (pc' := 142) (v := (52 : Int32)) d18_140 rfl rfl ?_
                refine OwnW.iadd (pc' := 143) d18_142 rfl ?_
                exact OwnW.retI d18_143 rfl (by decide) (by decide) (⟨by first | (simp only [f18, if_neg hc1, if_neg hc45, if_neg hc90, if_pos hc96, if_pos hc107, if_neg hc127, if_neg hc133]; done) | (simp only [f18, if_neg hc1, if_neg hc45, if_neg hc90, if_pos hc96, if_pos hc107, if_neg hc127, if_neg hc133]; rfl), rfl⟩)
          ·
            refine OwnW.icmpN (pc' := 110) d18_107 (flt hc107).1 rfl ?_
            refine OwnW.iloadN (pc' := 111) d18_110 rfl rfl ?_
            refine OwnW.bipush (pc' := 113) (v := (122 : Int32)) d18_111 rfl rfl ?_
            by_cases hc113 : (122 : Int32) < q1
            ·
              refine OwnW.icmpY (pc' := 124) d18_113 (tlt hc113).2.2.1 (by decide) (by decide) ?_
              refine OwnW.iloadN (pc' := 125) d18_124 rfl rfl ?_
              refine OwnW.bipush (pc' := 127) (v := (48 : Int32)) d18_125 rfl rfl ?_
              by_cases hc127 : q1 < (48 : Int32)
              ·
                refine OwnW.icmpY (pc' := 144) d18_127 (tlt hc127).1 (by decide) (by decide) ?_
                refine OwnW.iloadN (pc' := 145) d18_144 rfl rfl ?_
                refine OwnW.bipush (pc' := 147) (v := (45 : Int32)) d18_145 rfl rfl ?_
                by_cases hc147 : q1 = (45 : Int32)
                ·
                  refine OwnW.icmpN (pc' := 150) d18_147 (teq hc147).2 rfl ?_
                  refine OwnW.bipush (pc' := 152) (v := (62 : Int32)) d18_150 rfl rfl ?_
                  exact OwnW.retI d18_152 rfl (by decide) (by decide) (⟨by first | (simp only [f18, if_neg hc1, if_neg hc45, if_neg hc90, if_pos hc96, if_neg hc107, if_pos hc113, if_pos hc127, if_pos hc147]; done) | (simp only [f18, if_neg hc1, if_neg hc45, if_neg hc90, if_pos hc96, if_neg hc107, if_pos hc113, if_pos hc127, if_pos hc147]; rfl), rfl⟩)
                ·
                  refine OwnW.icmpY (pc' := 153) d18_147 (feq hc147).2 (by decide) (by decide) ?_
                  refine OwnW.iloadN (pc' := 154) d18_153 rfl rfl ?_
                  refine OwnW.bipush (pc' := 156) (v := (95 : Int32)) d18_154 rfl rfl ?_
                  by_cases hc156 : q1 = (95 : Int32)
                  ·
                    refine OwnW.icmpN (pc' := 159) d18_156 (teq hc156).2 rfl ?_
                    refine OwnW.bipush (pc' := 161) (v := (63 : Int32)) d18_159 rfl rfl ?_
                    exact OwnW.retI d18_161 rfl (by decide) (by decide) (⟨by first | (simp only [f18, if_neg hc1, if_neg hc45, if_neg hc90, if_pos hc96, if_neg hc107, if_pos hc113, if_pos hc127, if_neg hc147, if_pos hc156]; done) | (simp only [f18, if_neg hc1, if_neg hc45, if_neg hc90, if_pos hc96, if_neg hc107, if_pos hc113, if_pos hc127, if_neg hc147, if_pos hc156]; rfl), rfl⟩)
                  ·
                    refine OwnW.icmpY (pc' := 162) d18_156 (feq hc156).2 (by decide) (by decide) ?_
                    refine OwnW.iconst (pc' := 163) (v := (-1 : Int32)) d18_162 rfl rfl ?_
                    exact OwnW.retI d18_163 rfl (by decide) (by decide) (⟨by first | (simp only [f18, if_neg hc1, if_neg hc45, if_neg hc90, if_pos hc96, if_neg hc107, if_pos hc113, if_pos hc127, if_neg hc147, if_neg hc156]; done) | (simp only [f18, if_neg hc1, if_neg hc45, if_neg hc90, if_pos hc96, if_neg hc107, if_pos hc113, if_pos hc127, if_neg hc147, if_neg hc156]; rfl), rfl⟩)
              ·
                refine OwnW.icmpN (pc' := 130) d18_127 (flt hc127).1 rfl ?_
                refine OwnW.iloadN (pc' := 131) d18_130 rfl rfl ?_
                refine OwnW.bipush (pc' := 133) (v := (57 : Int32)) d18_131 rfl rfl ?_
                by_cases hc133 : (57 : Int32) < q1
                ·
                  refine OwnW.icmpY (pc' := 144) d18_133 (tlt hc133).2.2.1 (by decide) (by decide) ?_
                  refine OwnW.iloadN (pc' := 145) d18_144 rfl rfl ?_
                  refine OwnW.bipush (pc' := 147) (v := (45 : Int32)) d18_145 rfl rfl ?_
                  by_cases hc147 : q1 = (45 : Int32)
                  ·
                    refine OwnW.icmpN (pc' := 150) d18_147 (teq hc147).2 rfl ?_
                    refine OwnW.bipush (pc' := 152) (v := (62 : Int32)) d18_150 rfl rfl ?_
                    exact OwnW.retI d18_152 rfl (by decide) (by decide) (⟨by first | (simp only [f18, if_neg hc1, if_neg hc45, if_neg hc90, if_pos hc96, if_neg hc107, if_pos hc113, if_neg hc127, if_pos hc133, if_pos hc147]; done) | (simp only [f18, if_neg hc1, if_neg hc45, if_neg hc90, if_pos hc96, if_neg hc107, if_pos hc113, if_neg hc127, if_pos hc133, if_pos hc147]; rfl), rfl⟩)
                  ·
                    refine OwnW.icmpY (pc' := 153) d18_147 (feq hc147).2 (by decide) (by decide) ?_
                    refine OwnW.iloadN (pc' := 154) d18_153 rfl rfl ?_
                    refine OwnW.bipush (pc' := 156) (v := (95 : Int32)) d18_154 rfl rfl ?_
                    by_cases hc156 : q1 = (95 : Int32)
                    ·
                      refine OwnW.icmpN (pc' := 159) d18_156 (teq hc156).2 rfl ?_
                      refine OwnW.bipush (pc' := 161) (v := (63 : Int32)) d18_159 rfl rfl ?_
                      exact OwnW.retI d18_161 rfl (by decide) (by decide) (⟨by first | (simp only [f18, if_neg hc1, if_neg hc45, if_neg hc90, if_pos hc96, if_neg hc107, if_pos hc113, if_neg hc127, if_pos hc133, if_neg hc147, if_pos hc156]; done) | (simp only [f18, if_neg hc1, if_neg hc45, if_neg hc90, if_pos hc96, if_neg hc107, if_pos hc113, if_neg hc127, if_pos hc133, if_neg hc147, if_pos hc156]; rfl), rfl⟩)
                    ·
                      refine OwnW.icmpY (pc' := 162) d18_156 (feq hc156).2 (by decide) (by decide) ?_
                      refine OwnW.iconst (pc' := 163) (v := (-1 : Int32)) d18_162 rfl rfl ?_
                      exact OwnW.retI d18_163 rfl (by decide) (by decide) (⟨by first | (simp only [f18, if_neg hc1, if_neg hc45, if_neg hc90, if_pos hc96, if_neg hc107, if_pos hc113, if_neg hc127, if_pos hc133, if_neg hc147, if_neg hc156]; done) | (simp only [f18, if_neg hc1, if_neg hc45, if_neg hc90, if_pos hc96, if_neg hc107, if_pos hc113, if_neg hc127, if_pos hc133, if_neg hc147, if_neg hc156]; rfl), rfl⟩)
                ·
                  refine OwnW.icmpN (pc' := 136) d18_133 (flt hc133).2.2.1 rfl ?_
                  refine OwnW.iloadN (pc' := 137) d18_136 rfl rfl ?_
                  refine OwnW.bipush (pc' := 139) (v := (48 : Int32)) d18_137 rfl rfl ?_
                  refine OwnW.isub (pc' := 140) d18_139 rfl ?_
                  refine OwnW.bipush (pc' := 142) (v := (52 : Int32)) d18_140 rfl rfl ?_
                  refine OwnW.iadd (pc' := 143) d18_142 rfl ?_
                  exact OwnW.retI d18_143 rfl (by decide) (by decide) (⟨by first | (simp only [f18, if_neg hc1, if_neg hc45, if_neg hc90, if_pos hc96, if_neg hc107, if_pos hc113, if_neg hc127, if_neg hc133]; done) | (simp only [f18, if_neg hc1, if_neg hc45, if_neg hc90, if_pos hc96, if_neg hc107, if_pos hc113, if_neg hc127, if_neg hc133]; rfl), rfl⟩)
            ·
              refine OwnW.icmpN (pc' := 116) d18_113 (flt hc113).2.2.1 rfl ?_
              refine OwnW.iloadN (pc' := 117) d18_116 rfl rfl ?_
              refine OwnW.bipush (pc' := 119) (v := (97 : Int32)) d18_117 rfl rfl ?_
              refine OwnW.isub (pc' := 120) d18_119 rfl ?_
              refine OwnW.bipush (pc' := 122) (v := (26 : Int32)) d18_120 rfl rfl ?_
              refine OwnW.iadd (pc' := 123) d18_122 rfl ?_
              exact OwnW.retI d18_123 rfl (by decide) (by decide) (⟨by first | (simp only [f18, if_neg hc1, if_neg hc45, if_neg hc90, if_pos hc96, if_neg hc107, if_neg hc113]; done) | (simp only [f18, if_neg hc1, if_neg hc45, if_neg hc90, if_pos hc96, if_neg hc107, if_neg hc113]; rfl), rfl⟩)
        ·
          refine OwnW.icmpN (pc' := 99) d18_96 (flt hc96).2.2.1 rfl ?_
          refine OwnW.iloadN (pc' := 100) d18_99 rfl rfl ?_
          refine OwnW.bipush (pc' := 102) (v := (65 : Int32)) d18_100 rfl rfl ?_
          refine OwnW.isub (pc' := 103) d18_102 rfl ?_
          exact OwnW.retI d18_103 rfl (by decide) (by decide) (⟨by first | (simp only [f18, if_neg hc1, if_neg hc45, if_neg hc90, if_neg hc96]; done) | (simp only [f18, if_neg hc1, if_neg hc45, if_neg hc90, if_neg hc96]; rfl), rfl⟩)
/-- an int[] of 128 that holds each sign's value -/
def Tab (Z : State) (h : Heap) (t : Addr) (k : Int32) : Prop := ∃ cl : Cell, Arr Z h t cl .int ∧ cl.slots.size = 128 ∧ ∀ c : Int32, ¬ c < (0 : Int32) → c < (128 : Int32) → cl.slots[c.toNatClampNeg]? = some (.int (f18 k c))
/-- a byte[] of six -/
def Byt (Z : State) (h : Heap) (a : Addr) : Prop := ∃ cl : Cell, Arr Z h a cl .byte ∧ cl.slots.size = 6
theorem Tab.ext {Z : State} {h h' : Heap} {t : Addr} {k : Int32} (F : Tab Z h t k) (E : Ext h h') : Tab Z h' t k := by obtain ⟨cl, A, r⟩ := F; exact ⟨cl, A.ext E, r⟩
theorem Tab.other {Z : State} {h h' : Heap} {t a : Addr} {k : Int32} {sl : Nat} {v : Value} (F : Tab Z h t k) (W : Wr h h' a sl v) (q : t ≠ a) : Tab Z h' t k := by obtain ⟨cl, A, r⟩ := F; exact ⟨cl, A.other W q, r⟩
theorem Tab.keep {Z : State} {h h' : Heap} {t : Addr} {k : Int32} {ws : List Addr} (F : Tab Z h t k) (K : Keep h h' ws) (q : t ∉ ws) : Tab Z h' t k := by obtain ⟨cl, A, r⟩ := F; exact ⟨cl, ⟨K.2.1 t cl A.1 q, A.2⟩, r⟩
theorem Tab.lt {Z : State} {h : Heap} {t : Addr} {k : Int32} (F : Tab Z h t k) : t < h.size := by obtain ⟨cl, A, -⟩ := F; exact A.lt
theorem Byt.ext {Z : State} {h h' : Heap} {t : Addr} (F : Byt Z h t) (E : Ext h h') : Byt Z h' t := by obtain ⟨cl, A, r⟩ := F; exact ⟨cl, A.ext E, r⟩
theorem Byt.other {Z : State} {h h' : Heap} {t a : Addr} {sl : Nat} {v : Value} (F : Byt Z h t) (W : Wr h h' a sl v) (q : t ≠ a) : Byt Z h' t := by obtain ⟨cl, A, r⟩ := F; exact ⟨cl, A.other W q, r⟩
theorem Byt.keep {Z : State} {h h' : Heap} {t : Addr} {ws : List Addr} (F : Byt Z h t) (K : Keep h h' ws) (q : t ∉ ws) : Byt Z h' t := by obtain ⟨cl, A, r⟩ := F; exact ⟨cl, ⟨K.2.1 t cl A.1 q, A.2⟩, r⟩
theorem Byt.lt {Z : State} {h : Heap} {t : Addr} (F : Byt Z h t) : t < h.size := by obtain ⟨cl, A, -⟩ := F; exact A.lt
theorem Byt.same {Z : State} {h h' : Heap} {t : Addr} {sl : Nat} {v : Value} (F : Byt Z h t) (W : Wr h h' t sl v) : Byt Z h' t := by obtain ⟨cl, A, r⟩ := F; exact ⟨_, A.same W, by simpa [Cell.setSlot] using r⟩
theorem Byt.ns {Z : State} {h : Heap} {t : Addr} (F : Byt Z h t) : ∀ c : Cell, h[t]? = some c → c.vm.isStatics = false := fun c q => by
  obtain ⟨cl, A, -⟩ := F
  cases A.1.symm.trans q
  exact A.plain
theorem own_in {cl : Cell} {c : Int32} (S : cl.slots.size = 128) (h0 : ¬ c < (0 : Int32)) (h1 : c < (128 : Int32)) : ¬ (c < 0 ∨ cl.slots.size ≤ c.toNatClampNeg) := by
  rintro (q | q)
  · exact h0 q
  · rw [S] at q
    rw [Int32.lt_iff_toInt_lt] at h1 h0
    have o : (128 : Int32).toInt = 128 := by decide
    have o0 : (0 : Int32).toInt = 0 := by decide
    have e : (c.toNatClampNeg : Int) = c.toInt := by simp only [Int32.toNatClampNeg]; omega
    omega
theorem own_va {k c va : Int32} (hva : va = (if c < (128 : Int32) then (f18 k c) else (-1 : Int32))) : va = (f18 k c) := by
  split at hva
  · exact hva
  · rename_i h
    rw [hva]
    have l : ∀ n : Int32, n.toInt < 128 → ¬ c ≤ n ∧ n < c ∧ ¬ c = n := fun n q => by
      have o : (128 : Int32).toInt = 128 := by decide
      rw [Int32.lt_iff_toInt_lt, o] at h
      refine ⟨?_, ?_, ?_⟩
      · rw [Int32.le_iff_toInt_le]; omega
      · rw [Int32.lt_iff_toInt_lt]; omega
      · rw [← Int32.toInt_inj]; omega
    have a57 := (l 57 (by decide)).2.1
    have a102 := (l 102 (by decide)).2.1
    have a122 := (l 122 (by decide)).2.1
    have a55 := (l 55 (by decide)).2.1
    have a90 := (l 90 (by decide)).2.1
    have a45 := (l 45 (by decide)).2.2
    have a95 := (l 95 (by decide)).2.2
    simp only [f18, a57, a102, a122, a55, a90, a45, a95, if_true, if_false, ite_self]

theorem d19_0 : decode method_5_code 0 = .ok (.iload_n 0, 1) := by decide +kernel
theorem d19_1 : decode method_5_code 1 = .ok (.ifCond .ne 26, 3) := by decide +kernel
theorem d19_4 : decode method_5_code 4 = .ok (.iload_n 1, 1) := by decide +kernel
theorem d19_5 : decode method_5_code 5 = .ok (.bipush 10, 2) := by decide +kernel
theorem d19_7 : decode method_5_code 7 = .ok (.if_icmp .ge 11, 3) := by decide +kernel
theorem d19_10 : decode method_5_code 10 = .ok (.bipush 48, 2) := by decide +kernel
theorem d19_12 : decode method_5_code 12 = .ok (.iload_n 1, 1) := by decide +kernel
theorem d19_13 : decode method_5_code 13 = .ok (.iadd, 1) := by decide +kernel
theorem d19_14 : decode method_5_code 14 = .ok (.i2c, 1) := by decide +kernel
theorem d19_15 : decode method_5_code 15 = .ok (.goto 11, 3) := by decide +kernel
theorem d19_18 : decode method_5_code 18 = .ok (.bipush 97, 2) := by decide +kernel
theorem d19_20 : decode method_5_code 20 = .ok (.iload_n 1, 1) := by decide +kernel
theorem d19_21 : decode method_5_code 21 = .ok (.iadd, 1) := by decide +kernel
theorem d19_22 : decode method_5_code 22 = .ok (.bipush 10, 2) := by decide +kernel
theorem d19_24 : decode method_5_code 24 = .ok (.isub, 1) := by decide +kernel
theorem d19_25 : decode method_5_code 25 = .ok (.i2c, 1) := by decide +kernel
theorem d19_26 : decode method_5_code 26 = .ok (.ireturn, 1) := by decide +kernel
theorem d19_27 : decode method_5_code 27 = .ok (.iload_n 0, 1) := by decide +kernel
theorem d19_28 : decode method_5_code 28 = .ok (.iconst 1, 1) := by decide +kernel
theorem d19_29 : decode method_5_code 29 = .ok (.if_icmp .ne 26, 3) := by decide +kernel
theorem d19_32 : decode method_5_code 32 = .ok (.iload_n 1, 1) := by decide +kernel
theorem d19_33 : decode method_5_code 33 = .ok (.bipush 26, 2) := by decide +kernel
theorem d19_35 : decode method_5_code 35 = .ok (.if_icmp .ge 11, 3) := by decide +kernel
theorem d19_38 : decode method_5_code 38 = .ok (.bipush 97, 2) := by decide +kernel
theorem d19_40 : decode method_5_code 40 = .ok (.iload_n 1, 1) := by decide +kernel
theorem d19_41 : decode method_5_code 41 = .ok (.iadd, 1) := by decide +kernel
theorem d19_42 : decode method_5_code 42 = .ok (.i2c, 1) := by decide +kernel
theorem d19_43 : decode method_5_code 43 = .ok (.goto 11, 3) := by decide +kernel
theorem d19_46 : decode method_5_code 46 = .ok (.bipush 50, 2) := by decide +kernel
theorem d19_48 : decode method_5_code 48 = .ok (.iload_n 1, 1) := by decide +kernel
theorem d19_49 : decode method_5_code 49 = .ok (.iadd, 1) := by decide +kernel
theorem d19_50 : decode method_5_code 50 = .ok (.bipush 26, 2) := by decide +kernel
theorem d19_52 : decode method_5_code 52 = .ok (.isub, 1) := by decide +kernel
theorem d19_53 : decode method_5_code 53 = .ok (.i2c, 1) := by decide +kernel
theorem d19_54 : decode method_5_code 54 = .ok (.ireturn, 1) := by decide +kernel
theorem d19_55 : decode method_5_code 55 = .ok (.iload_n 1, 1) := by decide +kernel
theorem d19_56 : decode method_5_code 56 = .ok (.bipush 26, 2) := by decide +kernel
theorem d19_58 : decode method_5_code 58 = .ok (.if_icmp .ge 9, 3) := by decide +kernel
theorem d19_61 : decode method_5_code 61 = .ok (.bipush 65, 2) := by decide +kernel
theorem d19_63 : decode method_5_code 63 = .ok (.iload_n 1, 1) := by decide +kernel
theorem d19_64 : decode method_5_code 64 = .ok (.iadd, 1) := by decide +kernel
theorem d19_65 : decode method_5_code 65 = .ok (.i2c, 1) := by decide +kernel
theorem d19_66 : decode method_5_code 66 = .ok (.ireturn, 1) := by decide +kernel
theorem d19_67 : decode method_5_code 67 = .ok (.iload_n 1, 1) := by decide +kernel
theorem d19_68 : decode method_5_code 68 = .ok (.bipush 52, 2) := by decide +kernel
theorem d19_70 : decode method_5_code 70 = .ok (.if_icmp .ge 12, 3) := by decide +kernel
theorem d19_73 : decode method_5_code 73 = .ok (.bipush 97, 2) := by decide +kernel
theorem d19_75 : decode method_5_code 75 = .ok (.iload_n 1, 1) := by decide +kernel
theorem d19_76 : decode method_5_code 76 = .ok (.iadd, 1) := by decide +kernel
theorem d19_77 : decode method_5_code 77 = .ok (.bipush 26, 2) := by decide +kernel
theorem d19_79 : decode method_5_code 79 = .ok (.isub, 1) := by decide +kernel
theorem d19_80 : decode method_5_code 80 = .ok (.i2c, 1) := by decide +kernel
theorem d19_81 : decode method_5_code 81 = .ok (.ireturn, 1) := by decide +kernel
theorem d19_82 : decode method_5_code 82 = .ok (.iload_n 1, 1) := by decide +kernel
theorem d19_83 : decode method_5_code 83 = .ok (.bipush 62, 2) := by decide +kernel
theorem d19_85 : decode method_5_code 85 = .ok (.if_icmp .ge 12, 3) := by decide +kernel
theorem d19_88 : decode method_5_code 88 = .ok (.bipush 48, 2) := by decide +kernel
theorem d19_90 : decode method_5_code 90 = .ok (.iload_n 1, 1) := by decide +kernel
theorem d19_91 : decode method_5_code 91 = .ok (.iadd, 1) := by decide +kernel
theorem d19_92 : decode method_5_code 92 = .ok (.bipush 52, 2) := by decide +kernel
theorem d19_94 : decode method_5_code 94 = .ok (.isub, 1) := by decide +kernel
theorem d19_95 : decode method_5_code 95 = .ok (.i2c, 1) := by decide +kernel
theorem d19_96 : decode method_5_code 96 = .ok (.ireturn, 1) := by decide +kernel
theorem d19_97 : decode method_5_code 97 = .ok (.iload_n 1, 1) := by decide +kernel
theorem d19_98 : decode method_5_code 98 = .ok (.bipush 62, 2) := by decide +kernel
theorem d19_100 : decode method_5_code 100 = .ok (.if_icmp .ne 6, 3) := by decide +kernel
theorem d19_103 : decode method_5_code 103 = .ok (.bipush 45, 2) := by decide +kernel
theorem d19_105 : decode method_5_code 105 = .ok (.ireturn, 1) := by decide +kernel
theorem d19_106 : decode method_5_code 106 = .ok (.bipush 95, 2) := by decide +kernel
theorem d19_108 : decode method_5_code 108 = .ok (.ireturn, 1) := by decide +kernel
def f19 (q0 : Int32) (q1 : Int32) : Int32 := (if q0 = (0 : Int32) then (if q1 < (10 : Int32) then (nar .char (((48 : Int32) + q1).toUInt32.toUInt16.toUInt32.toInt32)) else (nar .char ((((97 : Int32) + q1) - (10 : Int32)).toUInt32.toUInt16.toUInt32.toInt32))) else (if q0 = (1 : Int32) then (if q1 < (26 : Int32) then (nar .char (((97 : Int32) + q1).toUInt32.toUInt16.toUInt32.toInt32)) else (nar .char ((((50 : Int32) + q1) - (26 : Int32)).toUInt32.toUInt16.toUInt32.toInt32))) else (if q1 < (26 : Int32) then (nar .char (((65 : Int32) + q1).toUInt32.toUInt16.toUInt32.toInt32)) else (if q1 < (52 : Int32) then (nar .char ((((97 : Int32) + q1) - (26 : Int32)).toUInt32.toUInt16.toUInt32.toInt32)) else (if q1 < (62 : Int32) then (nar .char ((((48 : Int32) + q1) - (52 : Int32)).toUInt32.toUInt16.toUInt32.toInt32)) else (if q1 = (62 : Int32) then (45 : Int32) else (95 : Int32)))))))
abbrev GoB19 (l : Launch) (Z : State) (n0 : Nat) (Q : Option Value → Heap → Prop) := Go l Z ({ frames := 0, cells := 0, slots := 0, locals := 0 } : Room) (⟨"com/example/plumbline/plumbline/ReadingIsEncodingPinLaw", "charOf", "(II)C"⟩ : MethodName) method_5_code 2 (some .char) n0 Q
theorem ef19 (m : MethodId) (q0 : Int32) (q1 : Int32) : entryFrame m #[(.int q0), (.int q1)] 2 = mkF m 0 #[.val (.int q0), .val (.int q1)] [] := by first | (simp [entryFrame, mkF, argsToLocals, Value.category]; done) | rfl
set_option maxRecDepth 65536 in
set_option maxHeartbeats 40000000 in
theorem rm19 (l : Launch) (Z : State) (a0 : Array Value) (hw : ∀ d ∈ tables_1, d.before a0 Z = true) (q0 : Int32) (q1 : Int32) (h0 : Heap) (n0 : Nat) :
    Con l Z ({ frames := 0, cells := 0, slots := 0, locals := 0 } : Room) (⟨"com/example/plumbline/plumbline/ReadingIsEncodingPinLaw", "charOf", "(II)C"⟩ : MethodName) method_5_code 2 (some .char) n0 #[(.int q0), (.int q1)] h0 (OwnW.Ret (some (.int (f19 q0 q1))) h0) := by
  refine OwnW.Con.of (by first | decide +kernel | exact plainFor_of_name (by simp [plainName, overriddenIn])) (fun m => ef19 m q0 q1) ?_
  show GoB19 l Z n0 (OwnW.Ret (some (.int (f19 q0 q1))) h0) h0 0 0 0 #[.val (.int q0), .val (.int q1)] []
  refine OwnW.iloadN (pc' := 1) d19_0 rfl rfl ?_
  by_cases hc1 : q0 = (0 : Int32)
  ·
    refine OwnW.ifcN (pc' := 4) d19_1 ((if0 _ _).trans (teq hc1).2) rfl ?_
    refine OwnW.iloadN (pc' := 5) d19_4 rfl rfl ?_
    refine OwnW.bipush (pc' := 7) (v := (10 : Int32)) d19_5 rfl rfl ?_
    by_cases hc7 : q1 < (10 : Int32)
    ·
      refine OwnW.icmpN (pc' := 10) d19_7 (tlt hc7).2.1 rfl ?_
      refine OwnW.bipush (pc' := 12) (v := (48 : Int32)) d19_10 rfl rfl ?_
      refine OwnW.iloadN (pc' := 13) d19_12 rfl rfl ?_
      refine OwnW.iadd (pc' := 14) d19_13 rfl ?_
      refine OwnW.i2c (pc' := 15) d19_14 rfl ?_
      refine OwnW.goto (pc' := 26) d19_15 (by decide) (by decide) ?_
      exact OwnW.retN (t := .char) d19_26 rfl (by simp) rfl (by decide) (by decide) (⟨by first | (simp only [f19, if_pos hc1, if_pos hc7]; done) | (simp only [f19, if_pos hc1, if_pos hc7]; rfl), rfl⟩)
    ·
      refine OwnW.icmpY (pc' := 18) d19_7 (flt hc7).2.1 (by decide) (by decide) ?_
      refine OwnW.bipush (pc' := 20) (v := (97 : Int32)) d19_18 rfl rfl ?_
      refine OwnW.iloadN (pc' := 21) d19_20 rfl rfl ?_
      refine OwnW.iadd (pc' := 22) d19_21 rfl ?_
      refine OwnW.bipush (pc' := 24) (v := (10 : Int32)) d19_22 rfl rfl ?_
      refine OwnW.isub (pc' := 25) d19_24 rfl ?_
      refine OwnW.i2c (pc' := 26) d19_25 rfl ?_
      exact OwnW.retN (t := .char) d19_26 rfl (by simp) rfl (by decide) (by decide) (⟨by first | (simp only [f19, if_pos hc1, if_neg hc7]; done) | (simp only [f19, if_pos hc1, if_neg hc7]; rfl), rfl⟩)
  ·
    refine OwnW.ifcY (pc' := 27) d19_1 ((if0 _ _).trans (feq hc1).2) (by decide) (by decide) ?_
    refine OwnW.iloadN (pc' := 28) d19_27 rfl rfl ?_
    refine OwnW.iconst (pc' := 29) (v := (1 : Int32)) d19_28 rfl rfl ?_
    by_cases hc29 : q0 = (1 : Int32)
    ·
      refine OwnW.icmpN (pc' := 32) d19_29 (teq hc29).2 rfl ?_
      refine OwnW.iloadN (pc' := 33) d19_32 rfl rfl ?_
      refine OwnW.bipush (pc' := 35) (v := (26 : Int32)) d19_33 rfl rfl ?_
      by_cases hc35 : q1 < (26 : Int32)
      ·
        refine OwnW.icmpN (pc' := 38) d19_35 (tlt hc35).2.1 rfl ?_
        refine OwnW.bipush (pc' := 40) (v := (97 : Int32)) d19_38 rfl rfl ?_
        refine OwnW.iloadN (pc' := 41) d19_40 rfl rfl ?_
        refine OwnW.iadd (pc' := 42) d19_41 rfl ?_
        refine OwnW.i2c (pc' := 43) d19_42 rfl ?_
        refine OwnW.goto (pc' := 54) d19_43 (by decide) (by decide) ?_
        exact OwnW.retN (t := .char) d19_54 rfl (by simp) rfl (by decide) (by decide) (⟨by first | (simp only [f19, if_neg hc1, if_pos hc29, if_pos hc35]; done) | (simp only [f19, if_neg hc1, if_pos hc29, if_pos hc35]; rfl), rfl⟩)
      ·
        refine OwnW.icmpY (pc' := 46) d19_35 (flt hc35).2.1 (by decide) (by decide) ?_
        refine OwnW.bipush (pc' := 48) (v := (50 : Int32)) d19_46 rfl rfl ?_
        refine OwnW.iloadN (pc' := 49) d19_48 rfl rfl ?_
        refine OwnW.iadd (pc' := 50) d19_49 rfl ?_
        refine OwnW.bipush (pc' := 52) (v := (26 : Int32)) d19_50 rfl rfl ?_
        refine OwnW.isub (pc' := 53) d19_52 rfl ?_
        refine OwnW.i2c (pc' := 54) d19_53 rfl ?_
        exact OwnW.retN (t := .char) d19_54 rfl (by simp) rfl (by decide) (by decide) (⟨by first | (simp only [f19, if_neg hc1, if_pos hc29, if_neg hc35]; done) | (simp only [f19, if_neg hc1, if_pos hc29, if_neg hc35]; rfl), rfl⟩)
    ·
      refine OwnW.icmpY (pc' := 55) d19_29 (feq hc29).2 (by decide) (by decide) ?_
      refine OwnW.iloadN (pc' := 56) d19_55 rfl rfl ?_
      refine OwnW.bipush (pc' := 58) (v := (26 : Int32)) d19_56 rfl rfl ?_
      by_cases hc58 : q1 < (26 : Int32)
      ·
        refine OwnW.icmpN (pc' := 61) d19_58 (tlt hc58).2.1 rfl ?_
        refine OwnW.bipush (pc' := 63) (v := (65 : Int32)) d19_61 rfl rfl ?_
        refine OwnW.iloadN (pc' := 64) d19_63 rfl rfl ?_
        refine OwnW.iadd (pc' := 65) d19_64 rfl ?_
        refine OwnW.i2c (pc' := 66) d19_65 rfl ?_
        exact OwnW.retN (t := .char) d19_66 rfl (by simp) rfl (by decide) (by decide) (⟨by first | (simp only [f19, if_neg hc1, if_neg hc29, if_pos hc58]; done) | (simp only [f19, if_neg hc1, if_neg hc29, if_pos hc58]; rfl), rfl⟩)
      ·
        refine OwnW.icmpY (pc' := 67) d19_58 (flt hc58).2.1 (by decide) (by decide) ?_
        refine OwnW.iloadN (pc' := 68) d19_67 rfl rfl ?_
        refine OwnW.bipush (pc' := 70) (v := (52 : Int32)) d19_68 rfl rfl ?_
        by_cases hc70 : q1 < (52 : Int32)
        ·
          refine OwnW.icmpN (pc' := 73) d19_70 (tlt hc70).2.1 rfl ?_
          refine OwnW.bipush (pc' := 75) (v := (97 : Int32)) d19_73 rfl rfl ?_
          refine OwnW.iloadN (pc' := 76) d19_75 rfl rfl ?_
          refine OwnW.iadd (pc' := 77) d19_76 rfl ?_
          refine OwnW.bipush (pc' := 79) (v := (26 : Int32)) d19_77 rfl rfl ?_
          refine OwnW.isub (pc' := 80) d19_79 rfl ?_
          refine OwnW.i2c (pc' := 81) d19_80 rfl ?_
          exact OwnW.retN (t := .char) d19_81 rfl (by simp) rfl (by decide) (by decide) (⟨by first | (simp only [f19, if_neg hc1, if_neg hc29, if_neg hc58, if_pos hc70]; done) | (simp only [f19, if_neg hc1, if_neg hc29, if_neg hc58, if_pos hc70]; rfl), rfl⟩)
        ·
          refine OwnW.icmpY (pc' := 82) d19_70 (flt hc70).2.1 (by decide) (by decide) ?_
          refine OwnW.iloadN (pc' := 83) d19_82 rfl rfl ?_
          refine OwnW.bipush (pc' := 85) (v := (62 : Int32)) d19_83 rfl rfl ?_
          by_cases hc85 : q1 < (62 : Int32)
          ·
            refine OwnW.icmpN (pc' := 88) d19_85 (tlt hc85).2.1 rfl ?_
            refine OwnW.bipush (pc' := 90) (v := (48 : Int32)) d19_88 rfl rfl ?_
            refine OwnW.iloadN (pc' := 91) d19_90 rfl rfl ?_
            refine OwnW.iadd (pc' := 92) d19_91 rfl ?_
            refine OwnW.bipush (pc' := 94) (v := (52 : Int32)) d19_92 rfl rfl ?_
            refine OwnW.isub (pc' := 95) d19_94 rfl ?_
            refine OwnW.i2c (pc' := 96) d19_95 rfl ?_
            exact OwnW.retN (t := .char) d19_96 rfl (by simp) rfl (by decide) (by decide) (⟨by first | (simp only [f19, if_neg hc1, if_neg hc29, if_neg hc58, if_neg hc70, if_pos hc85]; done) | (simp only [f19, if_neg hc1, if_neg hc29, if_neg hc58, if_neg hc70, if_pos hc85]; rfl), rfl⟩)
          ·
            refine OwnW.icmpY (pc' := 97) d19_85 (flt hc85).2.1 (by decide) (by decide) ?_
            refine OwnW.iloadN (pc' := 98) d19_97 rfl rfl ?_
            refine OwnW.bipush (pc' := 100) (v := (62 : Int32)) d19_98 rfl rfl ?_
            by_cases hc100 : q1 = (62 : Int32)
            ·
              refine OwnW.icmpN (pc' := 103) d19_100 (teq hc100).2 rfl ?_
              refine OwnW.bipush (pc' := 105) (v := (45 : Int32)) d19_103 rfl rfl ?_
              exact OwnW.retN (t := .char) d19_105 rfl (by simp) rfl (by decide) (by decide) (⟨by first | (simp only [f19, if_neg hc1, if_neg hc29, if_neg hc58, if_neg hc70, if_neg hc85, if_pos hc100]; done) | (simp only [f19, if_neg hc1, if_neg hc29, if_neg hc58, if_neg hc70, if_neg hc85, if_pos hc100]; rfl), rfl⟩)
            ·
              refine OwnW.icmpY (pc' := 106) d19_100 (feq hc100).2 (by decide) (by decide) ?_
              refine OwnW.bipush (pc' := 108) (v := (95 : Int32)) d19_106 rfl rfl ?_
              exact OwnW.retN (t := .char) d19_108 rfl (by simp) rfl (by decide) (by decide) (⟨by first | (simp only [f19, if_neg hc1, if_neg hc29, if_neg hc58, if_neg hc70, if_neg hc85, if_neg hc100]; done) | (simp only [f19, if_neg hc1, if_neg hc29, if_neg hc58, if_neg hc70, if_neg hc85, if_neg hc100]; rfl), rfl⟩)
theorem d1_0 : decode method_3_code 0 = .ok (.lload_n 2, 1) := by decide +kernel
theorem d1_1 : decode method_3_code 1 = .ok (.bipush 8, 2) := by decide +kernel
theorem d1_3 : decode method_3_code 3 = .ok (.iload 5, 2) := by decide +kernel
theorem d1_5 : decode method_3_code 5 = .ok (.imul, 1) := by decide +kernel
theorem d1_6 : decode method_3_code 6 = .ok (.lushr, 1) := by decide +kernel
theorem d1_7 : decode method_3_code 7 = .ok (.ldc2_w 53, 3) := by decide +kernel
theorem d1_10 : decode method_3_code 10 = .ok (.land, 1) := by decide +kernel
theorem d1_11 : decode method_3_code 11 = .ok (.l2i, 1) := by decide +kernel
theorem d1_12 : decode method_3_code 12 = .ok (.istore 6, 2) := by decide +kernel
theorem d1_14 : decode method_3_code 14 = .ok (.iload 4, 2) := by decide +kernel
theorem d1_16 : decode method_3_code 16 = .ok (.iload 5, 2) := by decide +kernel
theorem d1_18 : decode method_3_code 18 = .ok (.iushr, 1) := by decide +kernel
theorem d1_19 : decode method_3_code 19 = .ok (.iconst 1, 1) := by decide +kernel
theorem d1_20 : decode method_3_code 20 = .ok (.iand, 1) := by decide +kernel
theorem d1_21 : decode method_3_code 21 = .ok (.ifCond .eq 16, 3) := by decide +kernel
theorem d1_24 : decode method_3_code 24 = .ok (.iload_n 0, 1) := by decide +kernel
theorem d1_25 : decode method_3_code 25 = .ok (.iload 6, 2) := by decide +kernel
theorem d1_27 : decode method_3_code 27 = .ok (.iconst 1, 1) := by decide +kernel
theorem d1_28 : decode method_3_code 28 = .ok (.iload_n 1, 1) := by decide +kernel
theorem d1_29 : decode method_3_code 29 = .ok (.ishl, 1) := by decide +kernel
theorem d1_30 : decode method_3_code 30 = .ok (.iconst 1, 1) := by decide +kernel
theorem d1_31 : decode method_3_code 31 = .ok (.isub, 1) := by decide +kernel
theorem d1_32 : decode method_3_code 32 = .ok (.iand, 1) := by decide +kernel
theorem d1_33 : decode method_3_code 33 = .ok (.invokestatic 55, 3) := by decide +kernel
theorem d1_36 : decode method_3_code 36 = .ok (.ireturn, 1) := by decide +kernel
theorem d1_37 : decode method_3_code 37 = .ok (.iload 6, 2) := by decide +kernel
theorem d1_39 : decode method_3_code 39 = .ok (.i2c, 1) := by decide +kernel
theorem d1_40 : decode method_3_code 40 = .ok (.ireturn, 1) := by decide +kernel
def f1 (q0 : Int32) (q1 : Int32) (q2 : Int64) (q3 : Int32) (q4 : Int32) : Int32 := (if (((q3.toUInt32 >>> (q4 &&& 31).toUInt32).toInt32) &&& (1 : Int32)) = (0 : Int32) then (nar .char (((((q2.toUInt64 >>> (((8 : Int32) * q4) &&& 0x3f).toInt64.toUInt64).toInt64) &&& (255 : Int64)).toInt32).toUInt32.toUInt16.toUInt32.toInt32)) else (nar .char (f19 q0 (((((q2.toUInt64 >>> (((8 : Int32) * q4) &&& 0x3f).toInt64.toUInt64).toInt64) &&& (255 : Int64)).toInt32) &&& (((1 : Int32) <<< (q1 &&& 31)) - (1 : Int32))))))
abbrev GoB1 (l : Launch) (Z : State) (n0 : Nat) (Q : Option Value → Heap → Prop) := Go l Z ({ frames := 1, cells := 0, slots := 0, locals := 13 } : Room) (⟨"com/example/plumbline/plumbline/ReadingIsEncodingPinLaw", "draw", "(IIJII)C"⟩ : MethodName) method_3_code 7 (some .char) n0 Q
theorem ef1 (m : MethodId) (q0 : Int32) (q1 : Int32) (q2 : Int64) (q3 : Int32) (q4 : Int32) : entryFrame m #[(.int q0), (.int q1), (.long q2), (.int q3), (.int q4)] 7 = mkF m 0 #[.val (.int q0), .val (.int q1), .val (.long q2), .second, .val (.int q3), .val (.int q4), .unset] [] := by first | (simp [entryFrame, mkF, argsToLocals, Value.category]; done) | rfl
set_option maxRecDepth 65536 in
set_option maxHeartbeats 40000000 in
theorem rm1 (l : Launch) (Z : State) (a0 : Array Value) (hw : ∀ d ∈ tables_1, d.before a0 Z = true) (q0 : Int32) (q1 : Int32) (q2 : Int64) (q3 : Int32) (q4 : Int32) (h0 : Heap) (n0 : Nat) :
    Con l Z ({ frames := 1, cells := 0, slots := 0, locals := 13 } : Room) (⟨"com/example/plumbline/plumbline/ReadingIsEncodingPinLaw", "draw", "(IIJII)C"⟩ : MethodName) method_3_code 7 (some .char) n0 #[(.int q0), (.int q1), (.long q2), (.int q3), (.int q4)] h0 (OwnW.Ret (some (.int (f1 q0 q1 q2 q3 q4))) h0) := by
  refine OwnW.Con.of (by first | decide +kernel | exact plainFor_of_name (by simp [plainName, overriddenIn])) (fun m => ef1 m q0 q1 q2 q3 q4) ?_
  show GoB1 l Z n0 (OwnW.Ret (some (.int (f1 q0 q1 q2 q3 q4))) h0) h0 0 0 0 #[.val (.int q0), .val (.int q1), .val (.long q2), .second, .val (.int q3), .val (.int q4), .unset] []
  refine OwnW.lloadN (pc' := 1) d1_0 rfl rfl ?_
  refine OwnW.bipush (pc' := 3) (v := (8 : Int32)) d1_1 rfl rfl ?_
  refine OwnW.iload (pc' := 5) d1_3 rfl rfl ?_
  refine OwnW.imul (pc' := 6) d1_5 rfl ?_
  refine OwnW.lushr (pc' := 7) d1_6 rfl ?_
  refine OwnW.ldc2J (a0 := a0) (pc' := 10) (v := (255 : Int64)) d1_7 (hw _ (List.mem_of_getElem? (i := 8) rfl)) rfl ?_
  refine OwnW.land (pc' := 11) d1_10 rfl ?_
  refine OwnW.l2i (pc' := 12) d1_11 rfl ?_
  refine OwnW.istore (pc' := 14) (L' := #[.val (.int q0), .val (.int q1), .val (.long q2), .second, .val (.int q3), .val (.int q4), .val (.int ((((q2.toUInt64 >>> (((8 : Int32) * q4) &&& 0x3f).toInt64.toUInt64).toInt64) &&& (255 : Int64)).toInt32))]) d1_12 rfl rfl ?_
  refine OwnW.iload (pc' := 16) d1_14 rfl rfl ?_
  refine OwnW.iload (pc' := 18) d1_16 rfl rfl ?_
  refine OwnW.iushr (pc' := 19) d1_18 rfl ?_
  refine OwnW.iconst (pc' := 20) (v := (1 : Int32)) d1_19 rfl rfl ?_
  refine OwnW.iand (pc' := 21) d1_20 rfl ?_
  by_cases hc21 : (((q3.toUInt32 >>> (q4 &&& 31).toUInt32).toInt32) &&& (1 : Int32)) = (0 : Int32)
  ·
    refine OwnW.ifcY (pc' := 37) d1_21 ((if0 _ _).trans (teq hc21).1) (by decide) (by decide) ?_
    refine OwnW.iload (pc' := 39) d1_37 rfl rfl ?_
    refine OwnW.i2c (pc' := 40) d1_39 rfl ?_
    exact OwnW.retN (t := .char) d1_40 rfl (by simp) rfl (by decide) (by decide) (⟨by first | (simp only [f1, if_pos hc21]; done) | (simp only [f1, if_pos hc21]; rfl), rfl⟩)
  ·
    refine OwnW.ifcN (pc' := 24) d1_21 ((if0 _ _).trans (feq hc21).1) rfl ?_
    refine OwnW.iloadN (pc' := 25) d1_24 rfl rfl ?_
    refine OwnW.iload (pc' := 27) d1_25 rfl rfl ?_
    refine OwnW.iconst (pc' := 28) (v := (1 : Int32)) d1_27 rfl rfl ?_
    refine OwnW.iloadN (pc' := 29) d1_28 rfl rfl ?_
    refine OwnW.ishl (pc' := 30) d1_29 rfl ?_
    refine OwnW.iconst (pc' := 31) (v := (1 : Int32)) d1_30 rfl rfl ?_
    refine OwnW.isub (pc' := 32) d1_31 rfl ?_
    refine OwnW.iand (pc' := 33) d1_32 rfl ?_
    refine OwnW.callS0 (a0 := a0) (pc' := 36) (W := 0) (k' := 0) (n' := 0) (argsL := [(.int q0), (.int (((((q2.toUInt64 >>> (((8 : Int32) * q4) &&& 0x3f).toInt64.toUInt64).toInt64) &&& (255 : Int64)).toInt32) &&& (((1 : Int32) <<< (q1 &&& 31)) - (1 : Int32))))]) (rest := []) (St' := [(.int (f19 q0 (((((q2.toUInt64 >>> (((8 : Int32) * q4) &&& 0x3f).toInt64.toUInt64).toInt64) &&& (255 : Int64)).toInt32) &&& (((1 : Int32) <<< (q1 &&& 31)) - (1 : Int32)))))]) d1_33 (hw _ (List.mem_of_getElem? (i := 104) rfl)) (hw _ (List.mem_of_getElem? (i := 105) rfl)) (hw _ (List.mem_of_getElem? (i := 6) rfl)) (hw _ (List.mem_of_getElem? (i := 106) rfl)) (by decide) (rm19 l Z a0 hw q0 (((((q2.toUInt64 >>> (((8 : Int32) * q4) &&& 0x3f).toInt64.toUInt64).toInt64) &&& (255 : Int64)).toInt32) &&& (((1 : Int32) <<< (q1 &&& 31)) - (1 : Int32))) h0 n0) (by decide) (by decide) rfl rfl (by decide) (by decide) rfl pd_28II29C rfl rfl rfl (Nat.le_of_ble_eq_true rfl) rfl rfl ?_
    exact OwnW.retN (t := .char) d1_36 rfl (by simp) rfl (by decide) (by decide) (⟨by first | (simp only [f1, if_neg hc21]; done) | (simp only [f1, if_neg hc21]; rfl), rfl⟩)
theorem d17_0 : decode method_4_code 0 = .ok (.iload_n 3, 1) := by decide +kernel
theorem d17_1 : decode method_4_code 1 = .ok (.iload_n 2, 1) := by decide +kernel
theorem d17_2 : decode method_4_code 2 = .ok (.if_icmp .ge 11, 3) := by decide +kernel
theorem d17_5 : decode method_4_code 5 = .ok (.iload_n 0, 1) := by decide +kernel
theorem d17_6 : decode method_4_code 6 = .ok (.iload_n 1, 1) := by decide +kernel
theorem d17_7 : decode method_4_code 7 = .ok (.invokestatic 49, 3) := by decide +kernel
theorem d17_10 : decode method_4_code 10 = .ok (.ifCond .lt 7, 3) := by decide +kernel
theorem d17_13 : decode method_4_code 13 = .ok (.iconst 1, 1) := by decide +kernel
theorem d17_14 : decode method_4_code 14 = .ok (.goto 4, 3) := by decide +kernel
theorem d17_17 : decode method_4_code 17 = .ok (.iconst 0, 1) := by decide +kernel
theorem d17_18 : decode method_4_code 18 = .ok (.ireturn, 1) := by decide +kernel
def f17 (q0 : Int32) (q1 : Int32) (q2 : Int32) (q3 : Int32) : Int32 := (if q3 < q2 then (if (f18 q0 q1) < (0 : Int32) then (0 : Int32) else (1 : Int32)) else (1 : Int32))
abbrev GoB17 (l : Launch) (Z : State) (n0 : Nat) (Q : Option Value → Heap → Prop) := Go l Z ({ frames := 1, cells := 0, slots := 0, locals := 13 } : Room) (⟨"com/example/plumbline/plumbline/ReadingIsEncodingPinLaw", "ok", "(ICII)Z"⟩ : MethodName) method_4_code 4 (some .boolean) n0 Q
theorem ef17 (m : MethodId) (q0 : Int32) (q1 : Int32) (q2 : Int32) (q3 : Int32) : entryFrame m #[(.int q0), (.int q1), (.int q2), (.int q3)] 4 = mkF m 0 #[.val (.int q0), .val (.int q1), .val (.int q2), .val (.int q3)] [] := by first | (simp [entryFrame, mkF, argsToLocals, Value.category]; done) | rfl
set_option maxRecDepth 65536 in
set_option maxHeartbeats 40000000 in
theorem rm17 (l : Launch) (Z : State) (a0 : Array Value) (hw : ∀ d ∈ tables_1, d.before a0 Z = true) (q0 : Int32) (q1 : Int32) (q2 : Int32) (q3 : Int32) (h0 : Heap) (n0 : Nat) :
    Con l Z ({ frames := 1, cells := 0, slots := 0, locals := 13 } : Room) (⟨"com/example/plumbline/plumbline/ReadingIsEncodingPinLaw", "ok", "(ICII)Z"⟩ : MethodName) method_4_code 4 (some .boolean) n0 #[(.int q0), (.int q1), (.int q2), (.int q3)] h0 (OwnW.Ret (some (.int (f17 q0 q1 q2 q3))) h0) := by
  refine OwnW.Con.of (by first | decide +kernel | exact plainFor_of_name (by simp [plainName, overriddenIn])) (fun m => ef17 m q0 q1 q2 q3) ?_
  show GoB17 l Z n0 (OwnW.Ret (some (.int (f17 q0 q1 q2 q3))) h0) h0 0 0 0 #[.val (.int q0), .val (.int q1), .val (.int q2), .val (.int q3)] []
  refine OwnW.iloadN (pc' := 1) d17_0 rfl rfl ?_
  refine OwnW.iloadN (pc' := 2) d17_1 rfl rfl ?_
  by_cases hc2 : q3 < q2
  ·
    refine OwnW.icmpN (pc' := 5) d17_2 (tlt hc2).2.1 rfl ?_
    refine OwnW.iloadN (pc' := 6) d17_5 rfl rfl ?_
    refine OwnW.iloadN (pc' := 7) d17_6 rfl rfl ?_
    refine OwnW.callS0 (a0 := a0) (pc' := 10) (W := 0) (k' := 0) (n' := 0) (argsL := [(.int q0), (.int q1)]) (rest := []) (St' := [(.int (f18 q0 q1))]) d17_7 (hw _ (List.mem_of_getElem? (i := 101) rfl)) (hw _ (List.mem_of_getElem? (i := 102) rfl)) (hw _ (List.mem_of_getElem? (i := 6) rfl)) (hw _ (List.mem_of_getElem? (i := 103) rfl)) (by decide) (rm18 l Z a0 hw q0 q1 h0 n0) (by decide) (by decide) rfl rfl (by decide) (by decide) rfl pd_28IC29I rfl rfl rfl (Nat.le_of_ble_eq_true rfl) rfl rfl ?_
    by_cases hc10 : (f18 q0 q1) < (0 : Int32)
    ·
      refine OwnW.ifcY (pc' := 17) d17_10 ((if0 _ _).trans (tlt hc10).1) (by decide) (by decide) ?_
      refine OwnW.iconst (pc' := 18) (v := (0 : Int32)) d17_17 rfl rfl ?_
      exact OwnW.retN (t := .boolean) d17_18 rfl (by simp) rfl (by decide) (by decide) (⟨by first | (simp only [f17, if_pos hc2, if_pos hc10]; done) | (simp only [f17, if_pos hc2, if_pos hc10]; rfl), rfl⟩)
    ·
      refine OwnW.ifcN (pc' := 13) d17_10 ((if0 _ _).trans (flt hc10).1) rfl ?_
      refine OwnW.iconst (pc' := 14) (v := (1 : Int32)) d17_13 rfl rfl ?_
      refine OwnW.goto (pc' := 18) d17_14 (by decide) (by decide) ?_
      exact OwnW.retN (t := .boolean) d17_18 rfl (by simp) rfl (by decide) (by decide) (⟨by first | (simp only [f17, if_pos hc2, if_neg hc10]; done) | (simp only [f17, if_pos hc2, if_neg hc10]; rfl), rfl⟩)
  ·
    refine OwnW.icmpY (pc' := 13) d17_2 (flt hc2).2.1 (by decide) (by decide) ?_
    refine OwnW.iconst (pc' := 14) (v := (1 : Int32)) d17_13 rfl rfl ?_
    refine OwnW.goto (pc' := 18) d17_14 (by decide) (by decide) ?_
    exact OwnW.retN (t := .boolean) d17_18 rfl (by simp) rfl (by decide) (by decide) (⟨by first | (simp only [f17, if_neg hc2]; done) | (simp only [f17, if_neg hc2]; rfl), rfl⟩)
theorem d5_0 : decode jdk_43_method_3_code 0 = .ok (.iload_n 0, 1) := by decide +kernel
theorem d5_1 : decode jdk_43_method_3_code 1 = .ok (.sipush 255, 3) := by decide +kernel
theorem d5_4 : decode jdk_43_method_3_code 4 = .ok (.if_icmp .gt 7, 3) := by decide +kernel
theorem d5_7 : decode jdk_43_method_3_code 7 = .ok (.iconst 1, 1) := by decide +kernel
theorem d5_8 : decode jdk_43_method_3_code 8 = .ok (.goto 4, 3) := by decide +kernel
theorem d5_11 : decode jdk_43_method_3_code 11 = .ok (.iconst 0, 1) := by decide +kernel
theorem d5_12 : decode jdk_43_method_3_code 12 = .ok (.ireturn, 1) := by decide +kernel
def f5 (q0 : Int32) : Int32 := (if (255 : Int32) < q0 then (0 : Int32) else (1 : Int32))
abbrev GoB5 (l : Launch) (Z : State) (n0 : Nat) (Q : Option Value → Heap → Prop) := Go l Z ({ frames := 0, cells := 0, slots := 0, locals := 0 } : Room) (⟨"java/lang/StringLatin1", "canEncode", "(C)Z"⟩ : MethodName) jdk_43_method_3_code 1 (some .boolean) n0 Q
theorem ef5 (m : MethodId) (q0 : Int32) : entryFrame m #[(.int q0)] 1 = mkF m 0 #[.val (.int q0)] [] := by first | (simp [entryFrame, mkF, argsToLocals, Value.category]; done) | rfl
set_option maxRecDepth 65536 in
set_option maxHeartbeats 40000000 in
theorem rm5 (l : Launch) (Z : State) (a0 : Array Value) (hw : ∀ d ∈ tables_1, d.before a0 Z = true) (q0 : Int32) (h0 : Heap) (n0 : Nat) :
    Con l Z ({ frames := 0, cells := 0, slots := 0, locals := 0 } : Room) (⟨"java/lang/StringLatin1", "canEncode", "(C)Z"⟩ : MethodName) jdk_43_method_3_code 1 (some .boolean) n0 #[(.int q0)] h0 (OwnW.Ret (some (.int (f5 q0))) h0) := by
  refine OwnW.Con.of (by first | decide +kernel | exact plainFor_of_name (by simp [plainName, overriddenIn])) (fun m => ef5 m q0) ?_
  show GoB5 l Z n0 (OwnW.Ret (some (.int (f5 q0))) h0) h0 0 0 0 #[.val (.int q0)] []
  refine OwnW.iloadN (pc' := 1) d5_0 rfl rfl ?_
  refine OwnW.sipush (pc' := 4) (v := (255 : Int32)) d5_1 rfl rfl ?_
  by_cases hc4 : (255 : Int32) < q0
  ·
    refine OwnW.icmpY (pc' := 11) d5_4 (tlt hc4).2.2.1 (by decide) (by decide) ?_
    refine OwnW.iconst (pc' := 12) (v := (0 : Int32)) d5_11 rfl rfl ?_
    exact OwnW.retN (t := .boolean) d5_12 rfl (by simp) rfl (by decide) (by decide) (⟨by first | (simp only [f5, if_pos hc4]; done) | (simp only [f5, if_pos hc4]; rfl), rfl⟩)
  ·
    refine OwnW.icmpN (pc' := 7) d5_4 (flt hc4).2.2.1 rfl ?_
    refine OwnW.iconst (pc' := 8) (v := (1 : Int32)) d5_7 rfl rfl ?_
    refine OwnW.goto (pc' := 12) d5_8 (by decide) (by decide) ?_
    exact OwnW.retN (t := .boolean) d5_12 rfl (by simp) rfl (by decide) (by decide) (⟨by first | (simp only [f5, if_neg hc4]; done) | (simp only [f5, if_neg hc4]; rfl), rfl⟩)
theorem d6_0 : decode jdk_43_method_46_code 0 = .ok (.iconst 1, 1) := by decide +kernel
theorem d6_1 : decode jdk_43_method_46_code 1 = .ok (.newarray .byte, 2) := by decide +kernel
theorem d6_3 : decode jdk_43_method_46_code 3 = .ok (.dup, 1) := by decide +kernel
theorem d6_4 : decode jdk_43_method_46_code 4 = .ok (.iconst 0, 1) := by decide +kernel
theorem d6_5 : decode jdk_43_method_46_code 5 = .ok (.iload_n 0, 1) := by decide +kernel
theorem d6_6 : decode jdk_43_method_46_code 6 = .ok (.i2b, 1) := by decide +kernel
theorem d6_7 : decode jdk_43_method_46_code 7 = .ok (.bastore, 1) := by decide +kernel
theorem d6_8 : decode jdk_43_method_46_code 8 = .ok (.areturn, 1) := by decide +kernel
def Q6 (Z : State) (q0 : Int32) (h0 : Heap) (v : Option Value) (h : Heap) : Prop := ∃ (x0 : Addr) (k0 : ClassId), v = some (.ref x0) ∧ Keep h0 h [] ∧ h0.size ≤ x0 ∧ Arv Z h x0 k0 .byte (1 : Int32) [(.int (nar .byte (q0.toInt8.toInt32)))] (.int (0 : Int32))
abbrev GoB6 (l : Launch) (Z : State) (n0 : Nat) (Q : Option Value → Heap → Prop) := Go l Z ({ frames := 0, cells := 1, slots := 1, locals := 0 } : Room) (⟨"java/lang/StringLatin1", "toBytes", "(C)[B"⟩ : MethodName) jdk_43_method_46_code 1 (some (.array .byte)) n0 Q
theorem ef6 (m : MethodId) (q0 : Int32) : entryFrame m #[(.int q0)] 1 = mkF m 0 #[.val (.int q0)] [] := by first | (simp [entryFrame, mkF, argsToLocals, Value.category]; done) | rfl
set_option maxRecDepth 65536 in
set_option maxHeartbeats 40000000 in
theorem rm6 (l : Launch) (Z : State) (a0 : Array Value) (hw : ∀ d ∈ tables_1, d.before a0 Z = true) (q0 : Int32) (h0 : Heap) (n0 : Nat) (Z0 : n0 ≤ h0.size) :
    Con l Z ({ frames := 0, cells := 1, slots := 1, locals := 0 } : Room) (⟨"java/lang/StringLatin1", "toBytes", "(C)[B"⟩ : MethodName) jdk_43_method_46_code 1 (some (.array .byte)) n0 #[(.int q0)] h0 (Q6 Z q0 h0) := by
  refine OwnW.Con.of (by first | decide +kernel | exact plainFor_of_name (by simp [plainName, overriddenIn])) (fun m => ef6 m q0) ?_
  show GoB6 l Z n0 (Q6 Z q0 h0) h0 0 0 0 #[.val (.int q0)] []
  refine OwnW.iconst (pc' := 1) (v := (1 : Int32)) d6_0 rfl rfl ?_
  refine OwnW.newP (a0 := a0) (pc' := 3) (cap := 1) (k' := 1) (n' := 1) d6_1 (hw _ (List.mem_of_getElem? (i := 38) rfl)) (by decide) (by decide) (by decide) rfl rfl (by decide) (by decide) rfl ?_
  intro h1 kc1 ad1 g1 E1 A1
  have ge_ad1 : n0 ≤ ad1 := Nat.le_trans Z0 (Nat.le_of_eq g1.symm)
  have sz_ad1 : n0 ≤ h1.size := Nat.le_trans Z0 E1.1
  have V1 : Arv Z h1 ad1 kc1 .byte (1 : Int32) [(.int (0 : Int32))] (.int (0 : Int32)) := (Arv.new A1 (by decide)).pad (pad_rep [] _ 1)
  refine OwnW.dup (pc' := 4) d6_3 rfl rfl ?_
  refine OwnW.iconst (pc' := 5) (v := (0 : Int32)) d6_4 rfl rfl ?_
  refine OwnW.iloadN (pc' := 6) d6_5 rfl rfl ?_
  refine OwnW.i2b (pc' := 7) d6_6 rfl ?_
  obtain ⟨cl2, Ar2, qk2, Sz2, Mn2, Hv2, Gf2⟩ := id V1
  refine OwnW.stB (pc' := 8) d6_7 Ar2 (inb_of Sz2 ⟨by decide, by decide⟩) ge_ad1 rfl ?_
  intro h2 W2
  have sz3 : n0 ≤ h2.size := (by rw [W2.size]; exact sz_ad1)
  have V2 : Arv Z h2 ad1 kc1 .byte (1 : Int32) [(.int (nar .byte (q0.toInt8.toInt32)))] (.int (0 : Int32)) := Arv.set Ar2 qk2 Sz2 Mn2 Hv2 Gf2 (fits_nar_byte _) W2 0 rfl (Nat.le_of_ble_eq_true rfl)
  exact OwnW.retA d6_8 rfl rfl rfl (by decide) (by decide) (⟨ad1, kc1, rfl, (((Keep.refl h0 []).ext E1).wr W2 (Or.inr (Nat.le_trans (Nat.le_refl _) (Nat.le_of_eq g1.symm)))), (Nat.le_trans (Nat.le_refl _) (Nat.le_of_eq g1.symm)), V2⟩)
theorem d7_0 : decode jdk_42_method_151_code 0 = .ok (.aload_n 0, 1) := by decide +kernel
theorem d7_1 : decode jdk_42_method_151_code 1 = .ok (.invokespecial 1, 3) := by decide +kernel
theorem d7_4 : decode jdk_42_method_151_code 4 = .ok (.aload_n 0, 1) := by decide +kernel
theorem d7_5 : decode jdk_42_method_151_code 5 = .ok (.aload_n 1, 1) := by decide +kernel
theorem d7_6 : decode jdk_42_method_151_code 6 = .ok (.putfield 9, 3) := by decide +kernel
theorem d7_9 : decode jdk_42_method_151_code 9 = .ok (.aload_n 0, 1) := by decide +kernel
theorem d7_10 : decode jdk_42_method_151_code 10 = .ok (.iload_n 2, 1) := by decide +kernel
theorem d7_11 : decode jdk_42_method_151_code 11 = .ok (.putfield 15, 3) := by decide +kernel
theorem d7_14 : decode jdk_42_method_151_code 14 = .ok (.return_, 1) := by decide +kernel
def Q7 (Z : State) (o : Addr) (q0 : Addr) (h0 : Heap) (v : Option Value) (h : Heap) : Prop := v = none ∧ Keep h0 h [o] ∧ Exa Z h o "java/lang/String" ∧ Fld Z h o "java/lang/String" "value" "[B" (.ref q0) ∧ Fld Z h o "java/lang/String" "coder" "B" (.int (0 : Int32))
abbrev GoB7 (l : Launch) (Z : State) (n0 : Nat) (Q : Option Value → Heap → Prop) := Go l Z ({ frames := 1, cells := 0, slots := 0, locals := 12 } : Room) (⟨"java/lang/String", "<init>", "([BB)V"⟩ : MethodName) jdk_42_method_151_code 3 none n0 Q
theorem ef7 (m : MethodId) (o : Addr) (q0 : Addr) : entryFrame m #[(.ref o), (.ref q0), (.int (0 : Int32))] 3 = mkF m 0 #[.val (.ref o), .val (.ref q0), .val (.int (0 : Int32))] [] := by first | (simp [entryFrame, mkF, argsToLocals, Value.category]; done) | rfl
set_option maxRecDepth 65536 in
set_option maxHeartbeats 40000000 in
theorem rm7 (l : Launch) (Z : State) (a0 : Array Value) (hw : ∀ d ∈ tables_1, d.before a0 Z = true) (o : Addr) (q0 : Addr) (h0 : Heap) (n0 : Nat) (Z0 : n0 ≤ h0.size) (g_o : n0 ≤ o) (E_o : Exa Z h0 o "java/lang/String") (F_v : Fld Z h0 o "java/lang/String" "value" "[B" .null) (F_c : Fld Z h0 o "java/lang/String" "coder" "B" (.int (0 : Int32))) :
    Con l Z ({ frames := 1, cells := 0, slots := 0, locals := 12 } : Room) (⟨"java/lang/String", "<init>", "([BB)V"⟩ : MethodName) jdk_42_method_151_code 3 none n0 #[(.ref o), (.ref q0), (.int (0 : Int32))] h0 (Q7 Z o q0 h0) := by
  refine OwnW.Con.of (by first | decide +kernel | exact plainFor_of_name (by simp [plainName, overriddenIn])) (fun m => ef7 m o q0) ?_
  show GoB7 l Z n0 (Q7 Z o q0 h0) h0 0 0 0 #[.val (.ref o), .val (.ref q0), .val (.int (0 : Int32))] []
  refine OwnW.aloadN (pc' := 1) d7_0 rfl (rfl) rfl ?_
  refine OwnW.initO (a0 := a0) (pc' := 4) (W := 0) d7_1 (hw _ (List.mem_of_getElem? (i := 43) rfl)) (hw _ (List.mem_of_getElem? (i := 16) rfl)) (hw _ (List.mem_of_getElem? (i := 17) rfl)) rfl (by decide) (Nat.le_of_ble_eq_true rfl) (by decide) rfl ?_
  refine OwnW.aloadN (pc' := 5) d7_4 rfl (rfl) rfl ?_
  refine OwnW.aloadN (pc' := 6) d7_5 rfl (rfl) rfl ?_
  refine OwnW.putF (a0 := a0) (pc' := 9) d7_6 (host := "") (Or.inl (hw _ (List.mem_of_getElem? (i := 44) rfl))) Via.refl F_v E_o (Or.inr ⟨(hw _ (List.mem_of_getElem? (i := 45) rfl)), rfl, rfl⟩) (hw _ (List.mem_of_getElem? (i := 34) rfl)) (ty := (.array .byte)) (by decide) rfl rfl g_o rfl ?_
  intro h1 W1
  have sz2 : n0 ≤ h1.size := (by rw [W1.size]; exact Z0)
  have F3 := F_v.same W1
  refine OwnW.aloadN (pc' := 10) d7_9 rfl (rfl) rfl ?_
  refine OwnW.iloadN (pc' := 11) d7_10 rfl rfl ?_
  have F5 := (F_c.other W1 (Or.inr (slot_ne (a0 := a0) (C := "java/lang/String") (Or.inr (hw _ (List.mem_of_getElem? (i := 47) rfl))) (Or.inr (hw _ (List.mem_of_getElem? (i := 45) rfl))) (by decide) (t := .byte) (t' := (.array .byte)) (by decide) (by decide))))
  have F6 := (E_o.wr W1)
  refine OwnW.putFN (a0 := a0) (pc' := 14) (v' := (.int (0 : Int32))) d7_11 (hw _ (List.mem_of_getElem? (i := 46) rfl)) Via.refl F5 F6 (Or.inr ⟨(hw _ (List.mem_of_getElem? (i := 47) rfl)), rfl, rfl⟩) (hw _ (List.mem_of_getElem? (i := 34) rfl)) (ty := .byte) (by decide) rfl (by decide) g_o rfl ?_
  intro h4 W4
  have sz7 : n0 ≤ h4.size := (by rw [W4.size]; exact sz2)
  have F8 := F5.same W4
  exact OwnW.ret0 d7_14 rfl (by decide) (by decide) (⟨rfl, (((Keep.refl h0 [o]).wr W1 (Or.inl (List.mem_of_getElem? (i := 0) rfl))).wr W4 (Or.inl (List.mem_of_getElem? (i := 0) rfl))), (F6.wr W4), (F3.other W4 (Or.inr (slot_ne (a0 := a0) (C := "java/lang/String") (Or.inr (hw _ (List.mem_of_getElem? (i := 45) rfl))) (Or.inr (hw _ (List.mem_of_getElem? (i := 47) rfl))) (by decide) (t := (.array .byte)) (t' := .byte) (by decide) (by decide)))), F8⟩)
theorem d4_0 : decode jdk_42_method_139_code 0 = .ok (.getstatic 38, 3) := by decide +kernel
theorem d4_3 : decode jdk_42_method_139_code 3 = .ok (.ifCond .eq 23, 3) := by decide +kernel
theorem d4_6 : decode jdk_42_method_139_code 6 = .ok (.iload_n 0, 1) := by decide +kernel
theorem d4_7 : decode jdk_42_method_139_code 7 = .ok (.invokestatic 1015, 3) := by decide +kernel
theorem d4_10 : decode jdk_42_method_139_code 10 = .ok (.ifCond .eq 16, 3) := by decide +kernel
theorem d4_13 : decode jdk_42_method_139_code 13 = .ok (.new 10, 3) := by decide +kernel
theorem d4_16 : decode jdk_42_method_139_code 16 = .ok (.dup, 1) := by decide +kernel
theorem d4_17 : decode jdk_42_method_139_code 17 = .ok (.iload_n 0, 1) := by decide +kernel
theorem d4_18 : decode jdk_42_method_139_code 18 = .ok (.invokestatic 1018, 3) := by decide +kernel
theorem d4_21 : decode jdk_42_method_139_code 21 = .ok (.iconst 0, 1) := by decide +kernel
theorem d4_22 : decode jdk_42_method_139_code 22 = .ok (.invokespecial 209, 3) := by decide +kernel
theorem d4_25 : decode jdk_42_method_139_code 25 = .ok (.areturn, 1) := by decide +kernel
def Q4 (Z : State) (q0 : Int32) (cs : Int32) (h0 : Heap) (v : Option Value) (h : Heap) : Prop := ∃ (x0 : Addr) (x1 : Addr) (k0 : ClassId), v = some (.ref x0) ∧ Keep h0 h [] ∧ h0.size ≤ x0 ∧ h0.size ≤ x1 ∧ x0 ≠ x1 ∧ Exa Z h x0 "java/lang/String" ∧ Fld Z h x0 "java/lang/String" "value" "[B" (.ref x1) ∧ Fld Z h x0 "java/lang/String" "coder" "B" (.int (0 : Int32)) ∧ Arv Z h x1 k0 .byte (1 : Int32) [(.int (nar .byte (q0.toInt8.toInt32)))] (.int (0 : Int32))
abbrev GoB4 (l : Launch) (Z : State) (n0 : Nat) (Q : Option Value → Heap → Prop) := Go l Z ({ frames := 2, cells := 2, slots := 5, locals := 27 } : Room) (⟨"java/lang/String", "valueOf", "(C)Ljava/lang/String;"⟩ : MethodName) jdk_42_method_139_code 1 (some (.object "java/lang/String")) n0 Q
theorem ef4 (m : MethodId) (q0 : Int32) : entryFrame m #[(.int q0)] 1 = mkF m 0 #[.val (.int q0)] [] := by first | (simp [entryFrame, mkF, argsToLocals, Value.category]; done) | rfl
set_option maxRecDepth 65536 in
set_option maxHeartbeats 40000000 in
theorem rm4 (l : Launch) (Z : State) (a0 : Array Value) (hw : ∀ d ∈ tables_1, d.before a0 Z = true) (q0 : Int32) (cs : Int32) (h0 : Heap) (n0 : Nat) (Z0 : n0 ≤ h0.size) (S_CS : Sta Z h0 "java/lang/String" "COMPACT_STRINGS" "Z" (.int cs)) (hcs : ¬ cs = (0 : Int32)) (hq : ¬ (255 : Int32) < q0) :
    Con l Z ({ frames := 2, cells := 2, slots := 5, locals := 27 } : Room) (⟨"java/lang/String", "valueOf", "(C)Ljava/lang/String;"⟩ : MethodName) jdk_42_method_139_code 1 (some (.object "java/lang/String")) n0 #[(.int q0)] h0 (Q4 Z q0 cs h0) := by
  refine OwnW.Con.of (by first | decide +kernel | exact plainFor_of_name (by simp [plainName, overriddenIn])) (fun m => ef4 m q0) ?_
  show GoB4 l Z n0 (Q4 Z q0 cs h0) h0 0 0 0 #[.val (.int q0)] []
  refine OwnW.getS (a0 := a0) (pc' := 3) d4_0 (host := "") (Or.inl (hw _ (List.mem_of_getElem? (i := 28) rfl))) Via.refl S_CS rfl ?_
  refine OwnW.ifcN (pc' := 6) d4_3 ((if0 _ _).trans (feq hcs).1) rfl ?_
  refine OwnW.iloadN (pc' := 7) d4_6 rfl rfl ?_
  refine OwnW.callS0 (a0 := a0) (pc' := 10) (W := 0) (k' := 0) (n' := 0) (argsL := [(.int q0)]) (rest := []) (St' := [(.int (f5 q0))]) d4_7 (hw _ (List.mem_of_getElem? (i := 29) rfl)) (hw _ (List.mem_of_getElem? (i := 30) rfl)) (hw _ (List.mem_of_getElem? (i := 31) rfl)) (hw _ (List.mem_of_getElem? (i := 32) rfl)) (by decide) (rm5 l Z a0 hw q0 h0 n0) (by decide) (by decide) rfl rfl (by decide) (by decide) rfl pd_28C29Z rfl rfl rfl (Nat.le_of_ble_eq_true rfl) rfl rfl ?_
  rw [show (f5 q0) = (1 : Int32) from by simp only [f5, if_neg hq]]
  show GoB4 l Z n0 (Q4 Z q0 cs h0) h0 0 0 10 #[.val (.int q0)] [(.int (1 : Int32))]
  refine OwnW.ifcN (pc' := 13) d4_10 ((if0 _ _).trans (feq (by decide)).1) rfl ?_
  refine OwnW.newO (a0 := a0) (pc' := 16) (k' := 1) (n' := 4) d4_13 (hw _ (List.mem_of_getElem? (i := 33) rfl)) (hw _ (List.mem_of_getElem? (i := 34) rfl)) (hw _ (List.mem_of_getElem? (i := 26) rfl)) rfl rfl (by decide) (by decide) rfl ?_
  intro h1 ad1 g1 E1 A1 D1
  have ge_ad1 : n0 ≤ ad1 := Nat.le_trans Z0 (Nat.le_of_eq g1.symm)
  have sz_ad1 : n0 ≤ h1.size := Nat.le_trans Z0 E1.1
  have F1_value : Fld Z h1 ad1 "java/lang/String" "value" "[B" .null := D1 (Or.inr (hw _ (List.mem_of_getElem? (i := 45) rfl))) (ty := (.array .byte)) (by decide)
  have F1_coder : Fld Z h1 ad1 "java/lang/String" "coder" "B" (.int (0 : Int32)) := D1 (Or.inr (hw _ (List.mem_of_getElem? (i := 47) rfl))) (ty := .byte) (by decide)
  refine OwnW.dup (pc' := 17) d4_16 rfl rfl ?_
  refine OwnW.iloadN (pc' := 18) d4_17 rfl rfl ?_
  refine OwnW.callS (a0 := a0) (pc' := 21) (W := 2) (k' := 2) (n' := 5) (argsL := [(.int q0)]) (rest := [(.ref ad1), (.ref ad1)]) d4_18 (hw _ (List.mem_of_getElem? (i := 35) rfl)) (hw _ (List.mem_of_getElem? (i := 36) rfl)) (hw _ (List.mem_of_getElem? (i := 31) rfl)) (hw _ (List.mem_of_getElem? (i := 37) rfl)) (by decide) (rm6 l Z a0 hw q0 h1 n0 sz_ad1 ) (by decide) (by decide) rfl rfl (by decide) (by decide) rfl pd_28C295bB rfl rfl rfl (Nat.le_of_ble_eq_true rfl) rfl ?_
  rintro h2 v2 ⟨ad2_0, kc2_0, rfl, K2, gl2_0, Fc2_0⟩
  have lt_ad1_ad2_0 : @LT.lt Nat _ ad1 ad2_0 := Nat.lt_of_lt_of_le (A1).lt gl2_0
  have ge_ad2_0 : n0 ≤ ad2_0 := Nat.le_trans sz_ad1 gl2_0
  have F3 := (S_CS.ext E1)
  have S4 := OwnW.sta_keep F3 K2 all0
  have sz5 : n0 ≤ h2.size := Nat.le_trans sz_ad1 K2.1
  show GoB4 l Z n0 (Q4 Z q0 cs h0) h2 2 5 21 #[.val (.int q0)] [(.ref ad2_0), (.ref ad1), (.ref ad1)]
  refine OwnW.iconst (pc' := 22) (v := (0 : Int32)) d4_21 rfl rfl ?_
  have F6 := (A1.keep K2)
  have F7 := (F1_value.keep K2 nin0)
  have F8 := (F1_coder.keep K2 nin0)
  refine OwnW.callI (a0 := a0) (pc' := 25) (W := 1) (k' := 2) (n' := 5) (argsL := [(.ref ad2_0), (.int (0 : Int32))]) (rest := [(.ref ad1)]) d4_22 rfl (hw _ (List.mem_of_getElem? (i := 39) rfl)) (hw _ (List.mem_of_getElem? (i := 40) rfl)) (hw _ (List.mem_of_getElem? (i := 26) rfl)) (hw _ (List.mem_of_getElem? (i := 42) rfl)) (by decide) (rm7 l Z a0 hw ad1 ad2_0 h2 n0 sz5 ge_ad1 F6 F7 F8) (by decide) (by decide) rfl rfl (by decide) (by decide) rfl pd_285bBB29V rfl rfl rfl (Nat.le_of_ble_eq_true rfl) rfl ?_
  rintro h9 v9 ⟨rfl, K9, Fc9_0, Fc9_1, Fc9_2⟩
  have S10 := OwnW.sta_keep S4 K9 (allS (OwnW.exa_ns F6) all0)
  have sz11 : n0 ≤ h9.size := Nat.le_trans sz5 K9.1
  show GoB4 l Z n0 (Q4 Z q0 cs h0) h9 2 5 25 #[.val (.int q0)] [(.ref ad1)]
  exact OwnW.retA d4_25 rfl rfl rfl (by decide) (by decide) (⟨ad1, ad2_0, kc2_0, rfl, ((((Keep.refl h0 []).ext E1).trans K2 all0).trans K9 (allS (Or.inr (Nat.le_trans (Nat.le_refl _) (Nat.le_of_eq g1.symm))) all0)), (Nat.le_trans (Nat.le_refl _) (Nat.le_of_eq g1.symm)), (Nat.le_trans (Nat.le_trans (Nat.le_refl _) E1.1) gl2_0), (Nat.ne_of_lt lt_ad1_ad2_0), Fc9_0, Fc9_1, Fc9_2, (Fc2_0.keep K9 (ninS (Ne.symm (Nat.ne_of_lt lt_ad1_ad2_0)) nin0))⟩)
theorem d10_0 : decode jdk_42_method_152_code 0 = .ok (.getstatic 38, 3) := by decide +kernel
theorem d10_3 : decode jdk_42_method_152_code 3 = .ok (.ifCond .eq 10, 3) := by decide +kernel
theorem d10_6 : decode jdk_42_method_152_code 6 = .ok (.aload_n 0, 1) := by decide +kernel
theorem d10_7 : decode jdk_42_method_152_code 7 = .ok (.getfield 15, 3) := by decide +kernel
theorem d10_10 : decode jdk_42_method_152_code 10 = .ok (.goto 4, 3) := by decide +kernel
theorem d10_14 : decode jdk_42_method_152_code 14 = .ok (.ireturn, 1) := by decide +kernel
def f10 (o : Addr) (cs : Int32) : Int32 := (0 : Int32)
abbrev GoB10 (l : Launch) (Z : State) (n0 : Nat) (Q : Option Value → Heap → Prop) := Go l Z ({ frames := 0, cells := 0, slots := 0, locals := 0 } : Room) (⟨"java/lang/String", "coder", "()B"⟩ : MethodName) jdk_42_method_152_code 1 (some .byte) n0 Q
theorem ef10 (m : MethodId) (o : Addr) : entryFrame m #[(.ref o)] 1 = mkF m 0 #[.val (.ref o)] [] := by first | (simp [entryFrame, mkF, argsToLocals, Value.category]; done) | rfl
set_option maxRecDepth 65536 in
set_option maxHeartbeats 40000000 in
theorem rm10 (l : Launch) (Z : State) (a0 : Array Value) (hw : ∀ d ∈ tables_1, d.before a0 Z = true) (o : Addr) (cs : Int32) (h0 : Heap) (n0 : Nat) (S_CS : Sta Z h0 "java/lang/String" "COMPACT_STRINGS" "Z" (.int cs)) (F_c : Fld Z h0 o "java/lang/String" "coder" "B" (.int (0 : Int32))) (hcs : ¬ cs = (0 : Int32)) :
    Con l Z ({ frames := 0, cells := 0, slots := 0, locals := 0 } : Room) (⟨"java/lang/String", "coder", "()B"⟩ : MethodName) jdk_42_method_152_code 1 (some .byte) n0 #[(.ref o)] h0 (OwnW.Ret (some (.int (f10 o cs))) h0) := by
  refine OwnW.Con.of (by first | decide +kernel | exact plainFor_of_name (by simp [plainName, overriddenIn])) (fun m => ef10 m o) ?_
  show GoB10 l Z n0 (OwnW.Ret (some (.int (f10 o cs))) h0) h0 0 0 0 #[.val (.ref o)] []
  refine OwnW.getS (a0 := a0) (pc' := 3) d10_0 (host := "") (Or.inl (hw _ (List.mem_of_getElem? (i := 28) rfl))) Via.refl S_CS rfl ?_
  refine OwnW.ifcN (pc' := 6) d10_3 ((if0 _ _).trans (feq hcs).1) rfl ?_
  refine OwnW.aloadN (pc' := 7) d10_6 rfl (rfl) rfl ?_
  refine OwnW.getF (a0 := a0) (pc' := 10) d10_7 (host := "") (Or.inl (hw _ (List.mem_of_getElem? (i := 46) rfl))) Via.refl F_c rfl ?_
  refine OwnW.goto (pc' := 14) d10_10 (by decide) (by decide) ?_
  exact OwnW.retN (t := .byte) d10_14 rfl (by simp) rfl (by decide) (by decide) (⟨by first | (simp only [f10]; done) | (simp only [f10]; rfl), rfl⟩)
theorem d12_0 : decode jdk_42_method_154_code 0 = .ok (.getstatic 38, 3) := by decide +kernel
theorem d12_3 : decode jdk_42_method_154_code 3 = .ok (.ifCond .eq 14, 3) := by decide +kernel
theorem d12_6 : decode jdk_42_method_154_code 6 = .ok (.aload_n 0, 1) := by decide +kernel
theorem d12_7 : decode jdk_42_method_154_code 7 = .ok (.getfield 15, 3) := by decide +kernel
theorem d12_10 : decode jdk_42_method_154_code 10 = .ok (.ifCond .ne 7, 3) := by decide +kernel
theorem d12_13 : decode jdk_42_method_154_code 13 = .ok (.iconst 1, 1) := by decide +kernel
theorem d12_14 : decode jdk_42_method_154_code 14 = .ok (.goto 4, 3) := by decide +kernel
theorem d12_18 : decode jdk_42_method_154_code 18 = .ok (.ireturn, 1) := by decide +kernel
def f12 (o : Addr) (cs : Int32) : Int32 := (1 : Int32)
abbrev GoB12 (l : Launch) (Z : State) (n0 : Nat) (Q : Option Value → Heap → Prop) := Go l Z ({ frames := 0, cells := 0, slots := 0, locals := 0 } : Room) (⟨"java/lang/String", "isLatin1", "()Z"⟩ : MethodName) jdk_42_method_154_code 1 (some .boolean) n0 Q
theorem ef12 (m : MethodId) (o : Addr) : entryFrame m #[(.ref o)] 1 = mkF m 0 #[.val (.ref o)] [] := by first | (simp [entryFrame, mkF, argsToLocals, Value.category]; done) | rfl
set_option maxRecDepth 65536 in
set_option maxHeartbeats 40000000 in
theorem rm12 (l : Launch) (Z : State) (a0 : Array Value) (hw : ∀ d ∈ tables_1, d.before a0 Z = true) (o : Addr) (cs : Int32) (h0 : Heap) (n0 : Nat) (S_CS : Sta Z h0 "java/lang/String" "COMPACT_STRINGS" "Z" (.int cs)) (F_c : Fld Z h0 o "java/lang/String" "coder" "B" (.int (0 : Int32))) (hcs : ¬ cs = (0 : Int32)) :
    Con l Z ({ frames := 0, cells := 0, slots := 0, locals := 0 } : Room) (⟨"java/lang/String", "isLatin1", "()Z"⟩ : MethodName) jdk_42_method_154_code 1 (some .boolean) n0 #[(.ref o)] h0 (OwnW.Ret (some (.int (f12 o cs))) h0) := by
  refine OwnW.Con.of (by first | decide +kernel | exact plainFor_of_name (by simp [plainName, overriddenIn])) (fun m => ef12 m o) ?_
  show GoB12 l Z n0 (OwnW.Ret (some (.int (f12 o cs))) h0) h0 0 0 0 #[.val (.ref o)] []
  refine OwnW.getS (a0 := a0) (pc' := 3) d12_0 (host := "") (Or.inl (hw _ (List.mem_of_getElem? (i := 28) rfl))) Via.refl S_CS rfl ?_
  refine OwnW.ifcN (pc' := 6) d12_3 ((if0 _ _).trans (feq hcs).1) rfl ?_
  refine OwnW.aloadN (pc' := 7) d12_6 rfl (rfl) rfl ?_
  refine OwnW.getF (a0 := a0) (pc' := 10) d12_7 (host := "") (Or.inl (hw _ (List.mem_of_getElem? (i := 46) rfl))) Via.refl F_c rfl ?_
  refine OwnW.ifcN (pc' := 13) d12_10 ((if0 _ _).trans (teq (by decide)).2) rfl ?_
  refine OwnW.iconst (pc' := 14) (v := (1 : Int32)) d12_13 rfl rfl ?_
  refine OwnW.goto (pc' := 18) d12_14 (by decide) (by decide) ?_
  exact OwnW.retN (t := .boolean) d12_18 rfl (by simp) rfl (by decide) (by decide) (⟨by first | (simp only [f12]; done) | (simp only [f12]; rfl), rfl⟩)
theorem d9_0 : decode jdk_42_method_54_code 0 = .ok (.aload_n 0, 1) := by decide +kernel
theorem d9_1 : decode jdk_42_method_54_code 1 = .ok (.getfield 9, 3) := by decide +kernel
theorem d9_4 : decode jdk_42_method_54_code 4 = .ok (.arraylength, 1) := by decide +kernel
theorem d9_5 : decode jdk_42_method_54_code 5 = .ok (.aload_n 0, 1) := by decide +kernel
theorem d9_6 : decode jdk_42_method_54_code 6 = .ok (.invokevirtual 335, 3) := by decide +kernel
theorem d9_9 : decode jdk_42_method_54_code 9 = .ok (.ishr, 1) := by decide +kernel
theorem d9_10 : decode jdk_42_method_54_code 10 = .ok (.ireturn, 1) := by decide +kernel
def f9 (o : Addr) (cs : Int32) (bb : Addr) (bk : ClassId) (bv : Int32) : Int32 := (1 : Int32)
abbrev GoB9 (l : Launch) (Z : State) (n0 : Nat) (Q : Option Value → Heap → Prop) := Go l Z ({ frames := 1, cells := 0, slots := 0, locals := 13 } : Room) (⟨"java/lang/String", "length", "()I"⟩ : MethodName) jdk_42_method_54_code 1 (some .int) n0 Q
theorem ef9 (m : MethodId) (o : Addr) : entryFrame m #[(.ref o)] 1 = mkF m 0 #[.val (.ref o)] [] := by first | (simp [entryFrame, mkF, argsToLocals, Value.category]; done) | rfl
set_option maxRecDepth 65536 in
set_option maxHeartbeats 40000000 in
theorem rm9 (l : Launch) (Z : State) (a0 : Array Value) (hw : ∀ d ∈ tables_1, d.before a0 Z = true) (o : Addr) (cs : Int32) (bb : Addr) (bk : ClassId) (bv : Int32) (h0 : Heap) (n0 : Nat) (E_o : Exa Z h0 o "java/lang/String") (S_CS : Sta Z h0 "java/lang/String" "COMPACT_STRINGS" "Z" (.int cs)) (F_c : Fld Z h0 o "java/lang/String" "coder" "B" (.int (0 : Int32))) (F_v : Fld Z h0 o "java/lang/String" "value" "[B" (.ref bb)) (A_b : Arv Z h0 bb bk .byte (1 : Int32) [(.int bv)] (.int (0 : Int32))) (hcs : ¬ cs = (0 : Int32)) :
    Con l Z ({ frames := 1, cells := 0, slots := 0, locals := 13 } : Room) (⟨"java/lang/String", "length", "()I"⟩ : MethodName) jdk_42_method_54_code 1 (some .int) n0 #[(.ref o)] h0 (OwnW.Ret (some (.int (f9 o cs bb bk bv))) h0) := by
  refine OwnW.Con.of (by first | decide +kernel | exact plainFor_of_name (by simp [plainName, overriddenIn])) (fun m => ef9 m o) ?_
  show GoB9 l Z n0 (OwnW.Ret (some (.int (f9 o cs bb bk bv))) h0) h0 0 0 0 #[.val (.ref o)] []
  refine OwnW.aloadN (pc' := 1) d9_0 rfl (rfl) rfl ?_
  refine OwnW.getF (a0 := a0) (pc' := 4) d9_1 (host := "") (Or.inl (hw _ (List.mem_of_getElem? (i := 44) rfl))) Via.refl F_v rfl ?_
  obtain ⟨cl1, Ar1, qk1, Sz1, Mn1, Hv1, Gf1⟩ := id A_b
  refine OwnW.alen (pc' := 5) (x := (1 : Int32)) d9_4 Ar1 (len_of Sz1 Mn1) rfl ?_
  refine OwnW.aloadN (pc' := 6) d9_5 rfl (rfl) rfl ?_
  refine OwnW.callV0 (a0 := a0) (pc' := 9) (W := 1) (k' := 0) (n' := 0) (argsL := []) (rest := [(.int (1 : Int32))]) (St' := [(.int (f10 o cs)), (.int (1 : Int32))]) d9_6 (hw _ (List.mem_of_getElem? (i := 62) rfl)) (hw _ (List.mem_of_getElem? (i := 63) rfl)) (hw _ (List.mem_of_getElem? (i := 65) rfl)) (hw _ (List.mem_of_getElem? (i := 64) rfl)) (hw _ (List.mem_of_getElem? (i := 26) rfl)) (hw _ (List.mem_of_getElem? (i := 66) rfl)) (by decide) E_o (rm10 l Z a0 hw o cs h0 n0 S_CS F_c hcs) (by decide) (by decide) rfl rfl (by decide) (by decide) rfl pd_2829B rfl rfl rfl (Nat.le_of_ble_eq_true rfl) rfl rfl ?_
  rw [show (f10 o cs) = (0 : Int32) from rfl]
  show GoB9 l Z n0 (OwnW.Ret (some (.int (f9 o cs bb bk bv))) h0) h0 0 0 9 #[.val (.ref o)] [(.int (0 : Int32)), (.int (1 : Int32))]
  refine OwnW.ishr (pc' := 10) d9_9 rfl ?_
  show GoB9 l Z n0 (OwnW.Ret (some (.int (f9 o cs bb bk bv))) h0) h0 0 0 10 #[.val (.ref o)] [(.int (1 : Int32))]
  exact OwnW.retI d9_10 rfl (by decide) (by decide) (⟨by first | (simp only [f9]; done) | (simp only [f9]; rfl), rfl⟩)
theorem d15_0 : decode jdk_41_method_11_code 0 = .ok (.iload_n 0, 1) := by decide +kernel
theorem d15_1 : decode jdk_41_method_11_code 1 = .ok (.ifCond .lt 8, 3) := by decide +kernel
theorem d15_4 : decode jdk_41_method_11_code 4 = .ok (.iload_n 0, 1) := by decide +kernel
theorem d15_5 : decode jdk_41_method_11_code 5 = .ok (.iload_n 1, 1) := by decide +kernel
theorem d15_6 : decode jdk_41_method_11_code 6 = .ok (.if_icmp .lt 10, 3) := by decide +kernel
theorem d15_16 : decode jdk_41_method_11_code 16 = .ok (.iload_n 0, 1) := by decide +kernel
theorem d15_17 : decode jdk_41_method_11_code 17 = .ok (.ireturn, 1) := by decide +kernel
def f15n : Int32 := (0 : Int32)
abbrev GoB15n (l : Launch) (Z : State) (n0 : Nat) (Q : Option Value → Heap → Prop) := Go l Z ({ frames := 0, cells := 0, slots := 0, locals := 0 } : Room) (⟨"jdk/internal/util/Preconditions", "checkIndex", "(IILjava/util/function/BiFunction;)I"⟩ : MethodName) jdk_41_method_11_code 3 (some .int) n0 Q
theorem ef15n (m : MethodId) : entryFrame m #[(.int (0 : Int32)), (.int (1 : Int32)), .null] 3 = mkF m 0 #[.val (.int (0 : Int32)), .val (.int (1 : Int32)), .val .null] [] := by first | (simp [entryFrame, mkF, argsToLocals, Value.category]; done) | rfl
set_option maxRecDepth 65536 in
set_option maxHeartbeats 40000000 in
theorem rm15n (l : Launch) (Z : State) (a0 : Array Value) (hw : ∀ d ∈ tables_1, d.before a0 Z = true) (h0 : Heap) (n0 : Nat) :
    Con l Z ({ frames := 0, cells := 0, slots := 0, locals := 0 } : Room) (⟨"jdk/internal/util/Preconditions", "checkIndex", "(IILjava/util/function/BiFunction;)I"⟩ : MethodName) jdk_41_method_11_code 3 (some .int) n0 #[(.int (0 : Int32)), (.int (1 : Int32)), .null] h0 (OwnW.Ret (some (.int (f15n))) h0) := by
  refine OwnW.Con.of (by first | decide +kernel | exact plainFor_of_name (by simp [plainName, overriddenIn])) (fun m => ef15n m) ?_
  show GoB15n l Z n0 (OwnW.Ret (some (.int (f15n))) h0) h0 0 0 0 #[.val (.int (0 : Int32)), .val (.int (1 : Int32)), .val .null] []
  refine OwnW.iloadN (pc' := 1) d15_0 rfl rfl ?_
  refine OwnW.ifcN (pc' := 4) d15_1 ((if0 _ _).trans (flt (by decide)).1) rfl ?_
  refine OwnW.iloadN (pc' := 5) d15_4 rfl rfl ?_
  refine OwnW.iloadN (pc' := 6) d15_5 rfl rfl ?_
  refine OwnW.icmpY (pc' := 16) d15_6 (tlt (by decide)).1 (by decide) (by decide) ?_
  refine OwnW.iloadN (pc' := 17) d15_16 rfl rfl ?_
  exact OwnW.retI d15_17 rfl (by decide) (by decide) (⟨by first | (simp only [f15n]; done) | (simp only [f15n]; rfl), rfl⟩)
def f15r (q2 : Addr) : Int32 := (0 : Int32)
abbrev GoB15r (l : Launch) (Z : State) (n0 : Nat) (Q : Option Value → Heap → Prop) := Go l Z ({ frames := 0, cells := 0, slots := 0, locals := 0 } : Room) (⟨"jdk/internal/util/Preconditions", "checkIndex", "(IILjava/util/function/BiFunction;)I"⟩ : MethodName) jdk_41_method_11_code 3 (some .int) n0 Q
theorem ef15r (m : MethodId) (q2 : Addr) : entryFrame m #[(.int (0 : Int32)), (.int (1 : Int32)), (.ref q2)] 3 = mkF m 0 #[.val (.int (0 : Int32)), .val (.int (1 : Int32)), .val (.ref q2)] [] := by first | (simp [entryFrame, mkF, argsToLocals, Value.category]; done) | rfl
set_option maxRecDepth 65536 in
set_option maxHeartbeats 40000000 in
theorem rm15r (l : Launch) (Z : State) (a0 : Array Value) (hw : ∀ d ∈ tables_1, d.before a0 Z = true) (q2 : Addr) (h0 : Heap) (n0 : Nat) :
    Con l Z ({ frames := 0, cells := 0, slots := 0, locals := 0 } : Room) (⟨"jdk/internal/util/Preconditions", "checkIndex", "(IILjava/util/function/BiFunction;)I"⟩ : MethodName) jdk_41_method_11_code 3 (some .int) n0 #[(.int (0 : Int32)), (.int (1 : Int32)), (.ref q2)] h0 (OwnW.Ret (some (.int (f15r q2))) h0) := by
  refine OwnW.Con.of (by first | decide +kernel | exact plainFor_of_name (by simp [plainName, overriddenIn])) (fun m => ef15r m q2) ?_
  show GoB15r l Z n0 (OwnW.Ret (some (.int (f15r q2))) h0) h0 0 0 0 #[.val (.int (0 : Int32)), .val (.int (1 : Int32)), .val (.ref q2)] []
  refine OwnW.iloadN (pc' := 1) d15_0 rfl rfl ?_
  refine OwnW.ifcN (pc' := 4) d15_1 ((if0 _ _).trans (flt (by decide)).1) rfl ?_
  refine OwnW.iloadN (pc' := 5) d15_4 rfl rfl ?_
  refine OwnW.iloadN (pc' := 6) d15_5 rfl rfl ?_
  refine OwnW.icmpY (pc' := 16) d15_6 (tlt (by decide)).1 (by decide) (by decide) ?_
  refine OwnW.iloadN (pc' := 17) d15_16 rfl rfl ?_
  exact OwnW.retI d15_17 rfl (by decide) (by decide) (⟨by first | (simp only [f15r]; done) | (simp only [f15r]; rfl), rfl⟩)
theorem rm15 (l : Launch) (Z : State) (a0 : Array Value) (hw : ∀ d ∈ tables_1, d.before a0 Z = true) (sv : Value) (h0 : Heap) (n0 : Nat) (hsv : sv.isRef = true) :
    Con l Z ({ frames := 0, cells := 0, slots := 0, locals := 0 } : Room) (⟨"jdk/internal/util/Preconditions", "checkIndex", "(IILjava/util/function/BiFunction;)I"⟩ : MethodName) jdk_41_method_11_code 3 (some .int) n0 #[(.int (0 : Int32)), (.int (1 : Int32)), sv] h0 (OwnW.Ret (some (.int (0 : Int32))) h0) := by
  rcases ref_cases hsv with rfl | ⟨r, rfl⟩
  · exact rm15n l Z a0 hw h0 n0
  · exact rm15r l Z a0 hw r h0 n0
theorem d14_0 : decode jdk_42_method_155_code 0 = .ok (.iload_n 0, 1) := by decide +kernel
theorem d14_1 : decode jdk_42_method_155_code 1 = .ok (.iload_n 1, 1) := by decide +kernel
theorem d14_2 : decode jdk_42_method_155_code 2 = .ok (.getstatic 1053, 3) := by decide +kernel
theorem d14_5 : decode jdk_42_method_155_code 5 = .ok (.invokestatic 1059, 3) := by decide +kernel
theorem d14_8 : decode jdk_42_method_155_code 8 = .ok (.pop, 1) := by decide +kernel
theorem d14_9 : decode jdk_42_method_155_code 9 = .ok (.return_, 1) := by decide +kernel
abbrev GoB14 (l : Launch) (Z : State) (n0 : Nat) (Q : Option Value → Heap → Prop) := Go l Z ({ frames := 1, cells := 0, slots := 0, locals := 14 } : Room) (⟨"java/lang/String", "checkIndex", "(II)V"⟩ : MethodName) jdk_42_method_155_code 2 none n0 Q
theorem ef14 (m : MethodId) : entryFrame m #[(.int (0 : Int32)), (.int (1 : Int32))] 2 = mkF m 0 #[.val (.int (0 : Int32)), .val (.int (1 : Int32))] [] := by first | (simp [entryFrame, mkF, argsToLocals, Value.category]; done) | rfl
set_option maxRecDepth 65536 in
set_option maxHeartbeats 40000000 in
theorem rm14 (l : Launch) (Z : State) (a0 : Array Value) (hw : ∀ d ∈ tables_1, d.before a0 Z = true) (sv : Value) (h0 : Heap) (n0 : Nat) (S_SF : Sta Z h0 "jdk/internal/util/Preconditions" "SIOOBE_FORMATTER" "Ljava/util/function/BiFunction;" sv) (hsv : sv.isRef = true) :
    Con l Z ({ frames := 1, cells := 0, slots := 0, locals := 14 } : Room) (⟨"java/lang/String", "checkIndex", "(II)V"⟩ : MethodName) jdk_42_method_155_code 2 none n0 #[(.int (0 : Int32)), (.int (1 : Int32))] h0 (OwnW.Ret none h0) := by
  refine OwnW.Con.of (by first | decide +kernel | exact plainFor_of_name (by simp [plainName, overriddenIn])) (fun m => ef14 m) ?_
  show GoB14 l Z n0 (OwnW.Ret none h0) h0 0 0 0 #[.val (.int (0 : Int32)), .val (.int (1 : Int32))] []
  refine OwnW.iloadN (pc' := 1) d14_0 rfl rfl ?_
  refine OwnW.iloadN (pc' := 2) d14_1 rfl rfl ?_
  refine OwnW.getS (a0 := a0) (pc' := 5) d14_2 (host := "") (Or.inl (hw _ (List.mem_of_getElem? (i := 86) rfl))) Via.refl S_SF rfl ?_
  refine OwnW.callS0 (a0 := a0) (pc' := 8) (W := 0) (k' := 0) (n' := 0) (argsL := [(.int (0 : Int32)), (.int (1 : Int32)), sv]) (rest := []) (St' := [(.int (0 : Int32))]) d14_5 (hw _ (List.mem_of_getElem? (i := 88) rfl)) (hw _ (List.mem_of_getElem? (i := 89) rfl)) (hw _ (List.mem_of_getElem? (i := 87) rfl)) (hw _ (List.mem_of_getElem? (i := 90) rfl)) (by decide) (rm15 l Z a0 hw sv h0 n0 hsv) (by decide) (by decide) rfl rfl (by decide) (by decide) rfl pd_28IILjava2futil2ffunction2fBiFunction3b29I rfl rfl rfl (Nat.le_of_ble_eq_true rfl) rfl rfl ?_
  refine OwnW.pop (pc' := 9) d14_8 rfl rfl ?_
  exact OwnW.ret0 d14_9 rfl (by decide) (by decide) (⟨rfl, rfl⟩)
theorem d13_0 : decode jdk_43_method_2_code 0 = .ok (.iload_n 1, 1) := by decide +kernel
theorem d13_1 : decode jdk_43_method_2_code 1 = .ok (.aload_n 0, 1) := by decide +kernel
theorem d13_2 : decode jdk_43_method_2_code 2 = .ok (.arraylength, 1) := by decide +kernel
theorem d13_3 : decode jdk_43_method_2_code 3 = .ok (.invokestatic 9, 3) := by decide +kernel
theorem d13_6 : decode jdk_43_method_2_code 6 = .ok (.aload_n 0, 1) := by decide +kernel
theorem d13_7 : decode jdk_43_method_2_code 7 = .ok (.iload_n 1, 1) := by decide +kernel
theorem d13_8 : decode jdk_43_method_2_code 8 = .ok (.baload, 1) := by decide +kernel
theorem d13_9 : decode jdk_43_method_2_code 9 = .ok (.sipush 255, 3) := by decide +kernel
theorem d13_12 : decode jdk_43_method_2_code 12 = .ok (.iand, 1) := by decide +kernel
theorem d13_13 : decode jdk_43_method_2_code 13 = .ok (.i2c, 1) := by decide +kernel
theorem d13_14 : decode jdk_43_method_2_code 14 = .ok (.ireturn, 1) := by decide +kernel
def f13 (q0 : Addr) (bk : ClassId) (bv : Int32) (sv : Value) : Int32 := (nar .char ((bv &&& (255 : Int32)).toUInt32.toUInt16.toUInt32.toInt32))
abbrev GoB13 (l : Launch) (Z : State) (n0 : Nat) (Q : Option Value → Heap → Prop) := Go l Z ({ frames := 2, cells := 0, slots := 0, locals := 27 } : Room) (⟨"java/lang/StringLatin1", "charAt", "([BI)C"⟩ : MethodName) jdk_43_method_2_code 2 (some .char) n0 Q
theorem ef13 (m : MethodId) (q0 : Addr) : entryFrame m #[(.ref q0), (.int (0 : Int32))] 2 = mkF m 0 #[.val (.ref q0), .val (.int (0 : Int32))] [] := by first | (simp [entryFrame, mkF, argsToLocals, Value.category]; done) | rfl
set_option maxRecDepth 65536 in
set_option maxHeartbeats 40000000 in
theorem rm13 (l : Launch) (Z : State) (a0 : Array Value) (hw : ∀ d ∈ tables_1, d.before a0 Z = true) (q0 : Addr) (bk : ClassId) (bv : Int32) (sv : Value) (h0 : Heap) (n0 : Nat) (A_b : Arv Z h0 q0 bk .byte (1 : Int32) [(.int bv)] (.int (0 : Int32))) (S_SF : Sta Z h0 "jdk/internal/util/Preconditions" "SIOOBE_FORMATTER" "Ljava/util/function/BiFunction;" sv) (hsv : sv.isRef = true) :
    Con l Z ({ frames := 2, cells := 0, slots := 0, locals := 27 } : Room) (⟨"java/lang/StringLatin1", "charAt", "([BI)C"⟩ : MethodName) jdk_43_method_2_code 2 (some .char) n0 #[(.ref q0), (.int (0 : Int32))] h0 (OwnW.Ret (some (.int (f13 q0 bk bv sv))) h0) := by
  refine OwnW.Con.of (by first | decide +kernel | exact plainFor_of_name (by simp [plainName, overriddenIn])) (fun m => ef13 m q0) ?_
  show GoB13 l Z n0 (OwnW.Ret (some (.int (f13 q0 bk bv sv))) h0) h0 0 0 0 #[.val (.ref q0), .val (.int (0 : Int32))] []
  refine OwnW.iloadN (pc' := 1) d13_0 rfl rfl ?_
  refine OwnW.aloadN (pc' := 2) d13_1 rfl (rfl) rfl ?_
  obtain ⟨cl1, Ar1, qk1, Sz1, Mn1, Hv1, Gf1⟩ := id A_b
  refine OwnW.alen (pc' := 3) (x := (1 : Int32)) d13_2 Ar1 (len_of Sz1 Mn1) rfl ?_
  refine OwnW.callS0 (a0 := a0) (pc' := 6) (W := 0) (k' := 0) (n' := 0) (argsL := [(.int (0 : Int32)), (.int (1 : Int32))]) (rest := []) (St' := []) d13_3 (hw _ (List.mem_of_getElem? (i := 83) rfl)) (hw _ (List.mem_of_getElem? (i := 84) rfl)) (hw _ (List.mem_of_getElem? (i := 26) rfl)) (hw _ (List.mem_of_getElem? (i := 85) rfl)) (by decide) (rm14 l Z a0 hw sv h0 n0 S_SF hsv) (by decide) (by decide) rfl rfl (by decide) (by decide) rfl pd_28II29V rfl rfl rfl (Nat.le_of_ble_eq_true rfl) rfl rfl ?_
  refine OwnW.aloadN (pc' := 7) d13_6 rfl (rfl) rfl ?_
  refine OwnW.iloadN (pc' := 8) d13_7 rfl rfl ?_
  obtain ⟨cl2, Ar2, qk2, Sz2, Mn2, Hv2, Gf2⟩ := id A_b
  refine OwnW.baload (pc' := 9) (v := (.int bv)) d13_8 Ar2 (inb_of Sz2 ⟨by decide, by decide⟩) (Hv2.at (inb_of Sz2 ⟨by decide, by decide⟩) rfl) rfl ?_
  refine OwnW.sipush (pc' := 12) (v := (255 : Int32)) d13_9 rfl rfl ?_
  refine OwnW.iand (pc' := 13) d13_12 rfl ?_
  refine OwnW.i2c (pc' := 14) d13_13 rfl ?_
  exact OwnW.retN (t := .char) d13_14 rfl (by simp) rfl (by decide) (by decide) (⟨by first | (simp only [f13]; done) | (simp only [f13]; rfl), rfl⟩)
theorem d11_0 : decode jdk_42_method_56_code 0 = .ok (.aload_n 0, 1) := by decide +kernel
theorem d11_1 : decode jdk_42_method_56_code 1 = .ok (.invokevirtual 492, 3) := by decide +kernel
theorem d11_4 : decode jdk_42_method_56_code 4 = .ok (.ifCond .eq 12, 3) := by decide +kernel
theorem d11_7 : decode jdk_42_method_56_code 7 = .ok (.aload_n 0, 1) := by decide +kernel
theorem d11_8 : decode jdk_42_method_56_code 8 = .ok (.getfield 9, 3) := by decide +kernel
theorem d11_11 : decode jdk_42_method_56_code 11 = .ok (.iload_n 1, 1) := by decide +kernel
theorem d11_12 : decode jdk_42_method_56_code 12 = .ok (.invokestatic 495, 3) := by decide +kernel
theorem d11_15 : decode jdk_42_method_56_code 15 = .ok (.ireturn, 1) := by decide +kernel
def f11 (o : Addr) (cs : Int32) (bb : Addr) (bk : ClassId) (bv : Int32) (sv : Value) : Int32 := (nar .char (f13 bb bk bv sv))
abbrev GoB11 (l : Launch) (Z : State) (n0 : Nat) (Q : Option Value → Heap → Prop) := Go l Z ({ frames := 3, cells := 0, slots := 0, locals := 40 } : Room) (⟨"java/lang/String", "charAt", "(I)C"⟩ : MethodName) jdk_42_method_56_code 2 (some .char) n0 Q
theorem ef11 (m : MethodId) (o : Addr) : entryFrame m #[(.ref o), (.int (0 : Int32))] 2 = mkF m 0 #[.val (.ref o), .val (.int (0 : Int32))] [] := by first | (simp [entryFrame, mkF, argsToLocals, Value.category]; done) | rfl
set_option maxRecDepth 65536 in
set_option maxHeartbeats 40000000 in
theorem rm11 (l : Launch) (Z : State) (a0 : Array Value) (hw : ∀ d ∈ tables_1, d.before a0 Z = true) (o : Addr) (cs : Int32) (bb : Addr) (bk : ClassId) (bv : Int32) (sv : Value) (h0 : Heap) (n0 : Nat) (E_o : Exa Z h0 o "java/lang/String") (S_CS : Sta Z h0 "java/lang/String" "COMPACT_STRINGS" "Z" (.int cs)) (S_SF : Sta Z h0 "jdk/internal/util/Preconditions" "SIOOBE_FORMATTER" "Ljava/util/function/BiFunction;" sv) (F_c : Fld Z h0 o "java/lang/String" "coder" "B" (.int (0 : Int32))) (F_v : Fld Z h0 o "java/lang/String" "value" "[B" (.ref bb)) (A_b : Arv Z h0 bb bk .byte (1 : Int32) [(.int bv)] (.int (0 : Int32))) (hcs : ¬ cs = (0 : Int32)) (hsv : sv.isRef = true) :
    Con l Z ({ frames := 3, cells := 0, slots := 0, locals := 40 } : Room) (⟨"java/lang/String", "charAt", "(I)C"⟩ : MethodName) jdk_42_method_56_code 2 (some .char) n0 #[(.ref o), (.int (0 : Int32))] h0 (OwnW.Ret (some (.int (f11 o cs bb bk bv sv))) h0) := by
  refine OwnW.Con.of (by first | decide +kernel | exact plainFor_of_name (by simp [plainName, overriddenIn])) (fun m => ef11 m o) ?_
  show GoB11 l Z n0 (OwnW.Ret (some (.int (f11 o cs bb bk bv sv))) h0) h0 0 0 0 #[.val (.ref o), .val (.int (0 : Int32))] []
  refine OwnW.aloadN (pc' := 1) d11_0 rfl (rfl) rfl ?_
  refine OwnW.callV0 (a0 := a0) (pc' := 4) (W := 0) (k' := 0) (n' := 0) (argsL := []) (rest := []) (St' := [(.int (f12 o cs))]) d11_1 (hw _ (List.mem_of_getElem? (i := 75) rfl)) (hw _ (List.mem_of_getElem? (i := 76) rfl)) (hw _ (List.mem_of_getElem? (i := 78) rfl)) (hw _ (List.mem_of_getElem? (i := 77) rfl)) (hw _ (List.mem_of_getElem? (i := 26) rfl)) (hw _ (List.mem_of_getElem? (i := 79) rfl)) (by decide) E_o (rm12 l Z a0 hw o cs h0 n0 S_CS F_c hcs) (by decide) (by decide) rfl rfl (by decide) (by decide) rfl pd_2829Z rfl rfl rfl (Nat.le_of_ble_eq_true rfl) rfl rfl ?_
  rw [show (f12 o cs) = (1 : Int32) from rfl]
  show GoB11 l Z n0 (OwnW.Ret (some (.int (f11 o cs bb bk bv sv))) h0) h0 0 0 4 #[.val (.ref o), .val (.int (0 : Int32))] [(.int (1 : Int32))]
  refine OwnW.ifcN (pc' := 7) d11_4 ((if0 _ _).trans (feq (by decide)).1) rfl ?_
  refine OwnW.aloadN (pc' := 8) d11_7 rfl (rfl) rfl ?_
  refine OwnW.getF (a0 := a0) (pc' := 11) d11_8 (host := "") (Or.inl (hw _ (List.mem_of_getElem? (i := 44) rfl))) Via.refl F_v rfl ?_
  refine OwnW.iloadN (pc' := 12) d11_11 rfl rfl ?_
  refine OwnW.callS0 (a0 := a0) (pc' := 15) (W := 0) (k' := 0) (n' := 0) (argsL := [(.ref bb), (.int (0 : Int32))]) (rest := []) (St' := [(.int (f13 bb bk bv sv))]) d11_12 (hw _ (List.mem_of_getElem? (i := 80) rfl)) (hw _ (List.mem_of_getElem? (i := 81) rfl)) (hw _ (List.mem_of_getElem? (i := 31) rfl)) (hw _ (List.mem_of_getElem? (i := 82) rfl)) (by decide) (rm13 l Z a0 hw bb bk bv sv h0 n0 A_b S_SF hsv) (by decide) (by decide) rfl rfl (by decide) (by decide) rfl pd_285bBI29C rfl rfl rfl (Nat.le_of_ble_eq_true rfl) rfl rfl ?_
  exact OwnW.retN (t := .char) d11_15 rfl (by simp) rfl (by decide) (by decide) (⟨by first | (simp only [f11]; done) | (simp only [f11]; rfl), rfl⟩)
theorem d20_0 : decode prog_5_method_3_code 0 = .ok (.aload_n 0, 1) := by decide +kernel
theorem d20_1 : decode prog_5_method_3_code 1 = .ok (.aload_n 0, 1) := by decide +kernel
theorem d20_2 : decode prog_5_method_3_code 2 = .ok (.getfield 41, 3) := by decide +kernel
theorem d20_5 : decode prog_5_method_3_code 5 = .ok (.aload_n 0, 1) := by decide +kernel
theorem d20_6 : decode prog_5_method_3_code 6 = .ok (.getfield 15, 3) := by decide +kernel
theorem d20_9 : decode prog_5_method_3_code 9 = .ok (.getfield 45, 3) := by decide +kernel
theorem d20_12 : decode prog_5_method_3_code 12 = .ok (.ishl, 1) := by decide +kernel
theorem d20_13 : decode prog_5_method_3_code 13 = .ok (.iload_n 1, 1) := by decide +kernel
theorem d20_14 : decode prog_5_method_3_code 14 = .ok (.ior, 1) := by decide +kernel
theorem d20_15 : decode prog_5_method_3_code 15 = .ok (.putfield 41, 3) := by decide +kernel
theorem d20_18 : decode prog_5_method_3_code 18 = .ok (.aload_n 0, 1) := by decide +kernel
theorem d20_19 : decode prog_5_method_3_code 19 = .ok (.dup, 1) := by decide +kernel
theorem d20_20 : decode prog_5_method_3_code 20 = .ok (.getfield 48, 3) := by decide +kernel
theorem d20_23 : decode prog_5_method_3_code 23 = .ok (.aload_n 0, 1) := by decide +kernel
theorem d20_24 : decode prog_5_method_3_code 24 = .ok (.getfield 15, 3) := by decide +kernel
theorem d20_27 : decode prog_5_method_3_code 27 = .ok (.getfield 45, 3) := by decide +kernel
theorem d20_30 : decode prog_5_method_3_code 30 = .ok (.iadd, 1) := by decide +kernel
theorem d20_31 : decode prog_5_method_3_code 31 = .ok (.putfield 48, 3) := by decide +kernel
theorem d20_34 : decode prog_5_method_3_code 34 = .ok (.aload_n 0, 1) := by decide +kernel
theorem d20_35 : decode prog_5_method_3_code 35 = .ok (.getfield 48, 3) := by decide +kernel
theorem d20_38 : decode prog_5_method_3_code 38 = .ok (.bipush 8, 2) := by decide +kernel
theorem d20_40 : decode prog_5_method_3_code 40 = .ok (.if_icmp .lt 67, 3) := by decide +kernel
theorem d20_43 : decode prog_5_method_3_code 43 = .ok (.aload_n 0, 1) := by decide +kernel
theorem d20_44 : decode prog_5_method_3_code 44 = .ok (.dup, 1) := by decide +kernel
theorem d20_45 : decode prog_5_method_3_code 45 = .ok (.getfield 48, 3) := by decide +kernel
theorem d20_48 : decode prog_5_method_3_code 48 = .ok (.bipush 8, 2) := by decide +kernel
theorem d20_50 : decode prog_5_method_3_code 50 = .ok (.isub, 1) := by decide +kernel
theorem d20_51 : decode prog_5_method_3_code 51 = .ok (.putfield 48, 3) := by decide +kernel
theorem d20_54 : decode prog_5_method_3_code 54 = .ok (.aload_n 0, 1) := by decide +kernel
theorem d20_55 : decode prog_5_method_3_code 55 = .ok (.getfield 19, 3) := by decide +kernel
theorem d20_58 : decode prog_5_method_3_code 58 = .ok (.ifnull 32, 3) := by decide +kernel
theorem d20_61 : decode prog_5_method_3_code 61 = .ok (.aload_n 0, 1) := by decide +kernel
theorem d20_62 : decode prog_5_method_3_code 62 = .ok (.getfield 19, 3) := by decide +kernel
theorem d20_65 : decode prog_5_method_3_code 65 = .ok (.aload_n 0, 1) := by decide +kernel
theorem d20_66 : decode prog_5_method_3_code 66 = .ok (.getfield 53, 3) := by decide +kernel
theorem d20_69 : decode prog_5_method_3_code 69 = .ok (.aload_n 0, 1) := by decide +kernel
theorem d20_70 : decode prog_5_method_3_code 70 = .ok (.getfield 41, 3) := by decide +kernel
theorem d20_73 : decode prog_5_method_3_code 73 = .ok (.aload_n 0, 1) := by decide +kernel
theorem d20_74 : decode prog_5_method_3_code 74 = .ok (.getfield 48, 3) := by decide +kernel
theorem d20_77 : decode prog_5_method_3_code 77 = .ok (.ishr, 1) := by decide +kernel
theorem d20_78 : decode prog_5_method_3_code 78 = .ok (.i2b, 1) := by decide +kernel
theorem d20_79 : decode prog_5_method_3_code 79 = .ok (.bastore, 1) := by decide +kernel
theorem d20_80 : decode prog_5_method_3_code 80 = .ok (.aload_n 0, 1) := by decide +kernel
theorem d20_81 : decode prog_5_method_3_code 81 = .ok (.dup, 1) := by decide +kernel
theorem d20_82 : decode prog_5_method_3_code 82 = .ok (.getfield 53, 3) := by decide +kernel
theorem d20_85 : decode prog_5_method_3_code 85 = .ok (.iconst 1, 1) := by decide +kernel
theorem d20_86 : decode prog_5_method_3_code 86 = .ok (.iadd, 1) := by decide +kernel
theorem d20_87 : decode prog_5_method_3_code 87 = .ok (.putfield 53, 3) := by decide +kernel
theorem d20_90 : decode prog_5_method_3_code 90 = .ok (.aload_n 0, 1) := by decide +kernel
theorem d20_91 : decode prog_5_method_3_code 91 = .ok (.dup, 1) := by decide +kernel
theorem d20_92 : decode prog_5_method_3_code 92 = .ok (.getfield 41, 3) := by decide +kernel
theorem d20_95 : decode prog_5_method_3_code 95 = .ok (.iconst 1, 1) := by decide +kernel
theorem d20_96 : decode prog_5_method_3_code 96 = .ok (.aload_n 0, 1) := by decide +kernel
theorem d20_97 : decode prog_5_method_3_code 97 = .ok (.getfield 48, 3) := by decide +kernel
theorem d20_100 : decode prog_5_method_3_code 100 = .ok (.ishl, 1) := by decide +kernel
theorem d20_101 : decode prog_5_method_3_code 101 = .ok (.iconst 1, 1) := by decide +kernel
theorem d20_102 : decode prog_5_method_3_code 102 = .ok (.isub, 1) := by decide +kernel
theorem d20_103 : decode prog_5_method_3_code 103 = .ok (.iand, 1) := by decide +kernel
theorem d20_104 : decode prog_5_method_3_code 104 = .ok (.putfield 41, 3) := by decide +kernel
theorem d20_107 : decode prog_5_method_3_code 107 = .ok (.return_, 1) := by decide +kernel
def Q20sn (Z : State) (o : Addr) (q0 : Int32) (P : Int32) (hd : Int32) (cnt : Int32) (e : Addr) (b : Int32) (h0 : Heap) (v : Option Value) (h : Heap) : Prop := v = none ∧ Keep h0 h [o] ∧ Exa Z h o "com/example/plumbline/plumbline/BaseEncoding$Reading" ∧ Fld Z h o "com/example/plumbline/plumbline/BaseEncoding$Reading" "inAlphabet" "Z" (.int (1 : Int32)) ∧ Fld Z h o "com/example/plumbline/plumbline/BaseEncoding$Reading" "encoding" "Lcom/example/plumbline/plumbline/BaseEncoding;" (.ref e) ∧ Fld Z h o "com/example/plumbline/plumbline/BaseEncoding$Reading" "pending" "I" (.int ((P <<< (b &&& 31)) ||| q0)) ∧ Fld Z h o "com/example/plumbline/plumbline/BaseEncoding$Reading" "held" "I" (.int (hd + b)) ∧ Fld Z h o "com/example/plumbline/plumbline/BaseEncoding$Reading" "bytes" "[B" .null ∧ Fld Z h o "com/example/plumbline/plumbline/BaseEncoding$Reading" "count" "I" (.int cnt)
abbrev GoB20sn (l : Launch) (Z : State) (n0 : Nat) (Q : Option Value → Heap → Prop) := Go l Z ({ frames := 0, cells := 0, slots := 0, locals := 0 } : Room) (⟨"com/example/plumbline/plumbline/BaseEncoding$Reading", "take", "(I)V"⟩ : MethodName) prog_5_method_3_code 2 none n0 Q
theorem ef20sn (m : MethodId) (o : Addr) (q0 : Int32) : entryFrame m #[(.ref o), (.int q0)] 2 = mkF m 0 #[.val (.ref o), .val (.int q0)] [] := by first | (simp [entryFrame, mkF, argsToLocals, Value.category]; done) | rfl
set_option maxRecDepth 65536 in
set_option maxHeartbeats 40000000 in
theorem rm20sn (l : Launch) (Z : State) (a0 : Array Value) (hw : ∀ d ∈ tables_1, d.before a0 Z = true) (o : Addr) (q0 : Int32) (P : Int32) (hd : Int32) (cnt : Int32) (e : Addr) (b : Int32) (h0 : Heap) (n0 : Nat) (Z0 : n0 ≤ h0.size) (g_o : n0 ≤ o) (E_o : Exa Z h0 o "com/example/plumbline/plumbline/BaseEncoding$Reading") (F_al : Fld Z h0 o "com/example/plumbline/plumbline/BaseEncoding$Reading" "inAlphabet" "Z" (.int (1 : Int32))) (F_enc : Fld Z h0 o "com/example/plumbline/plumbline/BaseEncoding$Reading" "encoding" "Lcom/example/plumbline/plumbline/BaseEncoding;" (.ref e)) (F_P : Fld Z h0 o "com/example/plumbline/plumbline/BaseEncoding$Reading" "pending" "I" (.int P)) (F_hd : Fld Z h0 o "com/example/plumbline/plumbline/BaseEncoding$Reading" "held" "I" (.int hd)) (F_by : Fld Z h0 o "com/example/plumbline/plumbline/BaseEncoding$Reading" "bytes" "[B" .null) (F_cnt : Fld Z h0 o "com/example/plumbline/plumbline/BaseEncoding$Reading" "count" "I" (.int cnt)) (F_b : Fld Z h0 e "com/example/plumbline/plumbline/BaseEncoding" "bits" "I" (.int b)) (E_e : Exa Z h0 e "com/example/plumbline/plumbline/BaseEncoding") (hlt : (hd + b) < (8 : Int32)) (ne_e_o : e ≠ o) :
    Con l Z ({ frames := 0, cells := 0, slots := 0, locals := 0 } : Room) (⟨"com/example/plumbline/plumbline/BaseEncoding$Reading", "take", "(I)V"⟩ : MethodName) prog_5_method_3_code 2 none n0 #[(.ref o), (.int q0)] h0 (Q20sn Z o q0 P hd cnt e b h0) := by
  refine OwnW.Con.of (by first | decide +kernel | exact plainFor_of_name (by simp [plainName, overriddenIn])) (fun m => ef20sn m o q0) ?_
  show GoB20sn l Z n0 (Q20sn Z o q0 P hd cnt e b h0) h0 0 0 0 #[.val (.ref o), .val (.int q0)] []
  refine OwnW.aloadN (pc' := 1) d20_0 rfl (rfl) rfl ?_
  refine OwnW.aloadN (pc' := 2) d20_1 rfl (rfl) rfl ?_
  refine OwnW.getF (a0 := a0) (pc' := 5) d20_2 (host := "") (Or.inl (hw _ (List.mem_of_getElem? (i := 111) rfl))) Via.refl F_P rfl ?_
  refine OwnW.aloadN (pc' := 6) d20_5 rfl (rfl) rfl ?_
  refine OwnW.getF (a0 := a0) (pc' := 9) d20_6 (host := "") (Or.inl (hw _ (List.mem_of_getElem? (i := 20) rfl))) Via.refl F_enc rfl ?_
  refine OwnW.getF (a0 := a0) (pc' := 12) d20_9 (Or.inr (hw _ (List.mem_of_getElem? (i := 113) rfl))) Via.refl F_b rfl ?_
  refine OwnW.ishl (pc' := 13) d20_12 rfl ?_
  refine OwnW.iloadN (pc' := 14) d20_13 rfl rfl ?_
  refine OwnW.ior (pc' := 15) d20_14 rfl ?_
  refine OwnW.putF (a0 := a0) (pc' := 18) d20_15 (host := "") (Or.inl (hw _ (List.mem_of_getElem? (i := 111) rfl))) Via.refl F_P E_o (Or.inl (hw _ (List.mem_of_getElem? (i := 112) rfl))) (hw _ (List.mem_of_getElem? (i := 10) rfl)) (ty := .int) (by decide) rfl rfl g_o rfl ?_
  intro h1 W1
  have sz2 : n0 ≤ h1.size := (by rw [W1.size]; exact Z0)
  have F3 := F_P.same W1
  refine OwnW.aloadN (pc' := 19) d20_18 rfl (rfl) rfl ?_
  refine OwnW.dup (pc' := 20) d20_19 rfl rfl ?_
  have F4 := (F_hd.other W1 (Or.inr (slot_ne (a0 := a0) (C := "com/example/plumbline/plumbline/BaseEncoding$Reading") (Or.inl (hw _ (List.mem_of_getElem? (i := 116) rfl))) (Or.inl (hw _ (List.mem_of_getElem? (i := 112) rfl))) (by decide) (t := .int) (t' := .int) (by decide) (by decide))))
  refine OwnW.getF (a0 := a0) (pc' := 23) d20_20 (host := "") (Or.inl (hw _ (List.mem_of_getElem? (i := 115) rfl))) Via.refl F4 rfl ?_
  refine OwnW.aloadN (pc' := 24) d20_23 rfl (rfl) rfl ?_
  have F5 := (F_enc.other W1 (Or.inr (slot_ne (a0 := a0) (C := "com/example/plumbline/plumbline/BaseEncoding$Reading") (Or.inr (hw _ (List.mem_of_getElem? (i := 21) rfl))) (Or.inl (hw _ (List.mem_of_getElem? (i := 112) rfl))) (by decide) (t := (.object "com/example/plumbline/plumbline/BaseEncoding")) (t' := .int) (by decide) (by decide))))
  refine OwnW.getF (a0 := a0) (pc' := 27) d20_24 (host := "") (Or.inl (hw _ (List.mem_of_getElem? (i := 20) rfl))) Via.refl F5 rfl ?_
  have F6 := (F_b.other W1 (Or.inl ne_e_o))
  refine OwnW.getF (a0 := a0) (pc' := 30) d20_27 (Or.inr (hw _ (List.mem_of_getElem? (i := 113) rfl))) Via.refl F6 rfl ?_
  refine OwnW.iadd (pc' := 31) d20_30 rfl ?_
  have F8 := (E_o.wr W1)
  refine OwnW.putF (a0 := a0) (pc' := 34) d20_31 (host := "") (Or.inl (hw _ (List.mem_of_getElem? (i := 115) rfl))) Via.refl F4 F8 (Or.inl (hw _ (List.mem_of_getElem? (i := 116) rfl))) (hw _ (List.mem_of_getElem? (i := 10) rfl)) (ty := .int) (by decide) rfl rfl g_o rfl ?_
  intro h7 W7
  have sz9 : n0 ≤ h7.size := (by rw [W7.size]; exact sz2)
  have F10 := F4.same W7
  refine OwnW.aloadN (pc' := 35) d20_34 rfl (rfl) rfl ?_
  refine OwnW.getF (a0 := a0) (pc' := 38) d20_35 (host := "") (Or.inl (hw _ (List.mem_of_getElem? (i := 115) rfl))) Via.refl F10 rfl ?_
  refine OwnW.bipush (pc' := 40) (v := (8 : Int32)) d20_38 rfl rfl ?_
  refine OwnW.icmpY (pc' := 107) d20_40 (tlt hlt).1 (by decide) (by decide) ?_
  exact OwnW.ret0 d20_107 rfl (by decide) (by decide) (⟨rfl, (((Keep.refl h0 [o]).wr W1 (Or.inl (List.mem_of_getElem? (i := 0) rfl))).wr W7 (Or.inl (List.mem_of_getElem? (i := 0) rfl))), (F8.wr W7), ((F_al.other W1 (Or.inr (slot_ne (a0 := a0) (C := "com/example/plumbline/plumbline/BaseEncoding$Reading") (Or.inl (hw _ (List.mem_of_getElem? (i := 19) rfl))) (Or.inl (hw _ (List.mem_of_getElem? (i := 112) rfl))) (by decide) (t := .boolean) (t' := .int) (by decide) (by decide)))).other W7 (Or.inr (slot_ne (a0 := a0) (C := "com/example/plumbline/plumbline/BaseEncoding$Reading") (Or.inl (hw _ (List.mem_of_getElem? (i := 19) rfl))) (Or.inl (hw _ (List.mem_of_getElem? (i := 116) rfl))) (by decide) (t := .boolean) (t' := .int) (by decide) (by decide)))), (F5.other W7 (Or.inr (slot_ne (a0 := a0) (C := "com/example/plumbline/plumbline/BaseEncoding$Reading") (Or.inr (hw _ (List.mem_of_getElem? (i := 21) rfl))) (Or.inl (hw _ (List.mem_of_getElem? (i := 116) rfl))) (by decide) (t := (.object "com/example/plumbline/plumbline/BaseEncoding")) (t' := .int) (by decide) (by decide)))), (F3.other W7 (Or.inr (slot_ne (a0 := a0) (C := "com/example/plumbline/plumbline/BaseEncoding$Reading") (Or.inl (hw _ (List.mem_of_getElem? (i := 112) rfl))) (Or.inl (hw _ (List.mem_of_getElem? (i := 116) rfl))) (by decide) (t := .int) (t' := .int) (by decide) (by decide)))), F10, ((F_by.other W1 (Or.inr (slot_ne (a0 := a0) (C := "com/example/plumbline/plumbline/BaseEncoding$Reading") (Or.inr (hw _ (List.mem_of_getElem? (i := 23) rfl))) (Or.inl (hw _ (List.mem_of_getElem? (i := 112) rfl))) (by decide) (t := (.array .byte)) (t' := .int) (by decide) (by decide)))).other W7 (Or.inr (slot_ne (a0 := a0) (C := "com/example/plumbline/plumbline/BaseEncoding$Reading") (Or.inr (hw _ (List.mem_of_getElem? (i := 23) rfl))) (Or.inl (hw _ (List.mem_of_getElem? (i := 116) rfl))) (by decide) (t := (.array .byte)) (t' := .int) (by decide) (by decide)))), ((F_cnt.other W1 (Or.inr (slot_ne (a0 := a0) (C := "com/example/plumbline/plumbline/BaseEncoding$Reading") (Or.inl (hw _ (List.mem_of_getElem? (i := 122) rfl))) (Or.inl (hw _ (List.mem_of_getElem? (i := 112) rfl))) (by decide) (t := .int) (t' := .int) (by decide) (by decide)))).other W7 (Or.inr (slot_ne (a0 := a0) (C := "com/example/plumbline/plumbline/BaseEncoding$Reading") (Or.inl (hw _ (List.mem_of_getElem? (i := 122) rfl))) (Or.inl (hw _ (List.mem_of_getElem? (i := 116) rfl))) (by decide) (t := .int) (t' := .int) (by decide) (by decide))))⟩)
def Q20sa (Z : State) (o : Addr) (q0 : Int32) (P : Int32) (hd : Int32) (cnt : Int32) (e : Addr) (b : Int32) (ya : Addr) (h0 : Heap) (v : Option Value) (h : Heap) : Prop := v = none ∧ Keep h0 h [o] ∧ Exa Z h o "com/example/plumbline/plumbline/BaseEncoding$Reading" ∧ Fld Z h o "com/example/plumbline/plumbline/BaseEncoding$Reading" "inAlphabet" "Z" (.int (1 : Int32)) ∧ Fld Z h o "com/example/plumbline/plumbline/BaseEncoding$Reading" "encoding" "Lcom/example/plumbline/plumbline/BaseEncoding;" (.ref e) ∧ Fld Z h o "com/example/plumbline/plumbline/BaseEncoding$Reading" "pending" "I" (.int ((P <<< (b &&& 31)) ||| q0)) ∧ Fld Z h o "com/example/plumbline/plumbline/BaseEncoding$Reading" "held" "I" (.int (hd + b)) ∧ Fld Z h o "com/example/plumbline/plumbline/BaseEncoding$Reading" "bytes" "[B" (.ref ya) ∧ Fld Z h o "com/example/plumbline/plumbline/BaseEncoding$Reading" "count" "I" (.int cnt)
abbrev GoB20sa (l : Launch) (Z : State) (n0 : Nat) (Q : Option Value → Heap → Prop) := Go l Z ({ frames := 0, cells := 0, slots := 0, locals := 0 } : Room) (⟨"com/example/plumbline/plumbline/BaseEncoding$Reading", "take", "(I)V"⟩ : MethodName) prog_5_method_3_code 2 none n0 Q
theorem ef20sa (m : MethodId) (o : Addr) (q0 : Int32) : entryFrame m #[(.ref o), (.int q0)] 2 = mkF m 0 #[.val (.ref o), .val (.int q0)] [] := by first | (simp [entryFrame, mkF, argsToLocals, Value.category]; done) | rfl
set_option maxRecDepth 65536 in
set_option maxHeartbeats 40000000 in
theorem rm20sa (l : Launch) (Z : State) (a0 : Array Value) (hw : ∀ d ∈ tables_1, d.before a0 Z = true) (o : Addr) (q0 : Int32) (P : Int32) (hd : Int32) (cnt : Int32) (e : Addr) (b : Int32) (ya : Addr) (h0 : Heap) (n0 : Nat) (Z0 : n0 ≤ h0.size) (g_o : n0 ≤ o) (E_o : Exa Z h0 o "com/example/plumbline/plumbline/BaseEncoding$Reading") (F_al : Fld Z h0 o "com/example/plumbline/plumbline/BaseEncoding$Reading" "inAlphabet" "Z" (.int (1 : Int32))) (F_enc : Fld Z h0 o "com/example/plumbline/plumbline/BaseEncoding$Reading" "encoding" "Lcom/example/plumbline/plumbline/BaseEncoding;" (.ref e)) (F_P : Fld Z h0 o "com/example/plumbline/plumbline/BaseEncoding$Reading" "pending" "I" (.int P)) (F_hd : Fld Z h0 o "com/example/plumbline/plumbline/BaseEncoding$Reading" "held" "I" (.int hd)) (F_by : Fld Z h0 o "com/example/plumbline/plumbline/BaseEncoding$Reading" "bytes" "[B" (.ref ya)) (F_cnt : Fld Z h0 o "com/example/plumbline/plumbline/BaseEncoding$Reading" "count" "I" (.int cnt)) (F_b : Fld Z h0 e "com/example/plumbline/plumbline/BaseEncoding" "bits" "I" (.int b)) (E_e : Exa Z h0 e "com/example/plumbline/plumbline/BaseEncoding") (hlt : (hd + b) < (8 : Int32)) (ne_e_o : e ≠ o) :
    Con l Z ({ frames := 0, cells := 0, slots := 0, locals := 0 } : Room) (⟨"com/example/plumbline/plumbline/BaseEncoding$Reading", "take", "(I)V"⟩ : MethodName) prog_5_method_3_code 2 none n0 #[(.ref o), (.int q0)] h0 (Q20sa Z o q0 P hd cnt e b ya h0) := by
  refine OwnW.Con.of (by first | decide +kernel | exact plainFor_of_name (by simp [plainName, overriddenIn])) (fun m => ef20sa m o q0) ?_
  show GoB20sa l Z n0 (Q20sa Z o q0 P hd cnt e b ya h0) h0 0 0 0 #[.val (.ref o), .val (.int q0)] []
  refine OwnW.aloadN (pc' := 1) d20_0 rfl (rfl) rfl ?_
  refine OwnW.aloadN (pc' := 2) d20_1 rfl (rfl) rfl ?_
  refine OwnW.getF (a0 := a0) (pc' := 5) d20_2 (host := "") (Or.inl (hw _ (List.mem_of_getElem? (i := 111) rfl))) Via.refl F_P rfl ?_
  refine OwnW.aloadN (pc' := 6) d20_5 rfl (rfl) rfl ?_
  refine OwnW.getF (a0 := a0) (pc' := 9) d20_6 (host := "") (Or.inl (hw _ (List.mem_of_getElem? (i := 20) rfl))) Via.refl F_enc rfl ?_
  refine OwnW.getF (a0 := a0) (pc' := 12) d20_9 (Or.inr (hw _ (List.mem_of_getElem? (i := 113) rfl))) Via.refl F_b rfl ?_
  refine OwnW.ishl (pc' := 13) d20_12 rfl ?_
  refine OwnW.iloadN (pc' := 14) d20_13 rfl rfl ?_
  refine OwnW.ior (pc' := 15) d20_14 rfl ?_
  refine OwnW.putF (a0 := a0) (pc' := 18) d20_15 (host := "") (Or.inl (hw _ (List.mem_of_getElem? (i := 111) rfl))) Via.refl F_P E_o (Or.inl (hw _ (List.mem_of_getElem? (i := 112) rfl))) (hw _ (List.mem_of_getElem? (i := 10) rfl)) (ty := .int) (by decide) rfl rfl g_o rfl ?_
  intro h1 W1
  have sz2 : n0 ≤ h1.size := (by rw [W1.size]; exact Z0)
  have F3 := F_P.same W1
  refine OwnW.aloadN (pc' := 19) d20_18 rfl (rfl) rfl ?_
  refine OwnW.dup (pc' := 20) d20_19 rfl rfl ?_
  have F4 := (F_hd.other W1 (Or.inr (slot_ne (a0 := a0) (C := "com/example/plumbline/plumbline/BaseEncoding$Reading") (Or.inl (hw _ (List.mem_of_getElem? (i := 116) rfl))) (Or.inl (hw _ (List.mem_of_getElem? (i := 112) rfl))) (by decide) (t := .int) (t' := .int) (by decide) (by decide))))
  refine OwnW.getF (a0 := a0) (pc' := 23) d20_20 (host := "") (Or.inl (hw _ (List.mem_of_getElem? (i := 115) rfl))) Via.refl F4 rfl ?_
  refine OwnW.aloadN (pc' := 24) d20_23 rfl (rfl) rfl ?_
  have F5 := (F_enc.other W1 (Or.inr (slot_ne (a0 := a0) (C := "com/example/plumbline/plumbline/BaseEncoding$Reading") (Or.inr (hw _ (List.mem_of_getElem? (i := 21) rfl))) (Or.inl (hw _ (List.mem_of_getElem? (i := 112) rfl))) (by decide) (t := (.object "com/example/plumbline/plumbline/BaseEncoding")) (t' := .int) (by decide) (by decide))))
  refine OwnW.getF (a0 := a0) (pc' := 27) d20_24 (host := "") (Or.inl (hw _ (List.mem_of_getElem? (i := 20) rfl))) Via.refl F5 rfl ?_
  have F6 := (F_b.other W1 (Or.inl ne_e_o))
  refine OwnW.getF (a0 := a0) (pc' := 30) d20_27 (Or.inr (hw _ (List.mem_of_getElem? (i := 113) rfl))) Via.refl F6 rfl ?_
  refine OwnW.iadd (pc' := 31) d20_30 rfl ?_
  have F8 := (E_o.wr W1)
  refine OwnW.putF (a0 := a0) (pc' := 34) d20_31 (host := "") (Or.inl (hw _ (List.mem_of_getElem? (i := 115) rfl))) Via.refl F4 F8 (Or.inl (hw _ (List.mem_of_getElem? (i := 116) rfl))) (hw _ (List.mem_of_getElem? (i := 10) rfl)) (ty := .int) (by decide) rfl rfl g_o rfl ?_
  intro h7 W7
  have sz9 : n0 ≤ h7.size := (by rw [W7.size]; exact sz2)
  have F10 := F4.same W7
  refine OwnW.aloadN (pc' := 35) d20_34 rfl (rfl) rfl ?_
  refine OwnW.getF (a0 := a0) (pc' := 38) d20_35 (host := "") (Or.inl (hw _ (List.mem_of_getElem? (i := 115) rfl))) Via.refl F10 rfl ?_
  refine OwnW.bipush (pc' := 40) (v := (8 : Int32)) d20_38 rfl rfl ?_
  refine OwnW.icmpY (pc' := 107) d20_40 (tlt hlt).1 (by decide) (by decide) ?_
  exact OwnW.ret0 d20_107 rfl (by decide) (by decide) (⟨rfl, (((Keep.refl h0 [o]).wr W1 (Or.inl (List.mem_of_getElem? (i := 0) rfl))).wr W7 (Or.inl (List.mem_of_getElem? (i := 0) rfl))), (F8.wr W7), ((F_al.other W1 (Or.inr (slot_ne (a0 := a0) (C := "com/example/plumbline/plumbline/BaseEncoding$Reading") (Or.inl (hw _ (List.mem_of_getElem? (i := 19) rfl))) (Or.inl (hw _ (List.mem_of_getElem? (i := 112) rfl))) (by decide) (t := .boolean) (t' := .int) (by decide) (by decide)))).other W7 (Or.inr (slot_ne (a0 := a0) (C := "com/example/plumbline/plumbline/BaseEncoding$Reading") (Or.inl (hw _ (List.mem_of_getElem? (i := 19) rfl))) (Or.inl (hw _ (List.mem_of_getElem? (i := 116) rfl))) (by decide) (t := .boolean) (t' := .int) (by decide) (by decide)))), (F5.other W7 (Or.inr (slot_ne (a0 := a0) (C := "com/example/plumbline/plumbline/BaseEncoding$Reading") (Or.inr (hw _ (List.mem_of_getElem? (i := 21) rfl))) (Or.inl (hw _ (List.mem_of_getElem? (i := 116) rfl))) (by decide) (t := (.object "com/example/plumbline/plumbline/BaseEncoding")) (t' := .int) (by decide) (by decide)))), (F3.other W7 (Or.inr (slot_ne (a0 := a0) (C := "com/example/plumbline/plumbline/BaseEncoding$Reading") (Or.inl (hw _ (List.mem_of_getElem? (i := 112) rfl))) (Or.inl (hw _ (List.mem_of_getElem? (i := 116) rfl))) (by decide) (t := .int) (t' := .int) (by decide) (by decide)))), F10, ((F_by.other W1 (Or.inr (slot_ne (a0 := a0) (C := "com/example/plumbline/plumbline/BaseEncoding$Reading") (Or.inr (hw _ (List.mem_of_getElem? (i := 23) rfl))) (Or.inl (hw _ (List.mem_of_getElem? (i := 112) rfl))) (by decide) (t := (.array .byte)) (t' := .int) (by decide) (by decide)))).other W7 (Or.inr (slot_ne (a0 := a0) (C := "com/example/plumbline/plumbline/BaseEncoding$Reading") (Or.inr (hw _ (List.mem_of_getElem? (i := 23) rfl))) (Or.inl (hw _ (List.mem_of_getElem? (i := 116) rfl))) (by decide) (t := (.array .byte)) (t' := .int) (by decide) (by decide)))), ((F_cnt.other W1 (Or.inr (slot_ne (a0 := a0) (C := "com/example/plumbline/plumbline/BaseEncoding$Reading") (Or.inl (hw _ (List.mem_of_getElem? (i := 122) rfl))) (Or.inl (hw _ (List.mem_of_getElem? (i := 112) rfl))) (by decide) (t := .int) (t' := .int) (by decide) (by decide)))).other W7 (Or.inr (slot_ne (a0 := a0) (C := "com/example/plumbline/plumbline/BaseEncoding$Reading") (Or.inl (hw _ (List.mem_of_getElem? (i := 122) rfl))) (Or.inl (hw _ (List.mem_of_getElem? (i := 116) rfl))) (by decide) (t := .int) (t' := .int) (by decide) (by decide))))⟩)
def Q20n (Z : State) (o : Addr) (q0 : Int32) (P : Int32) (hd : Int32) (cnt : Int32) (e : Addr) (b : Int32) (h0 : Heap) (v : Option Value) (h : Heap) : Prop := v = none ∧ Keep h0 h [o] ∧ Exa Z h o "com/example/plumbline/plumbline/BaseEncoding$Reading" ∧ Fld Z h o "com/example/plumbline/plumbline/BaseEncoding$Reading" "inAlphabet" "Z" (.int (1 : Int32)) ∧ Fld Z h o "com/example/plumbline/plumbline/BaseEncoding$Reading" "encoding" "Lcom/example/plumbline/plumbline/BaseEncoding;" (.ref e) ∧ Fld Z h o "com/example/plumbline/plumbline/BaseEncoding$Reading" "pending" "I" (.int (((P <<< (b &&& 31)) ||| q0) &&& (((1 : Int32) <<< (((hd + b) - (8 : Int32)) &&& 31)) - (1 : Int32)))) ∧ Fld Z h o "com/example/plumbline/plumbline/BaseEncoding$Reading" "held" "I" (.int ((hd + b) - (8 : Int32))) ∧ Fld Z h o "com/example/plumbline/plumbline/BaseEncoding$Reading" "bytes" "[B" .null ∧ Fld Z h o "com/example/plumbline/plumbline/BaseEncoding$Reading" "count" "I" (.int cnt)
abbrev GoB20n (l : Launch) (Z : State) (n0 : Nat) (Q : Option Value → Heap → Prop) := Go l Z ({ frames := 0, cells := 0, slots := 0, locals := 0 } : Room) (⟨"com/example/plumbline/plumbline/BaseEncoding$Reading", "take", "(I)V"⟩ : MethodName) prog_5_method_3_code 2 none n0 Q
theorem ef20n (m : MethodId) (o : Addr) (q0 : Int32) : entryFrame m #[(.ref o), (.int q0)] 2 = mkF m 0 #[.val (.ref o), .val (.int q0)] [] := by first | (simp [entryFrame, mkF, argsToLocals, Value.category]; done) | rfl
set_option maxRecDepth 65536 in
set_option maxHeartbeats 40000000 in
theorem rm20n (l : Launch) (Z : State) (a0 : Array Value) (hw : ∀ d ∈ tables_1, d.before a0 Z = true) (o : Addr) (q0 : Int32) (P : Int32) (hd : Int32) (cnt : Int32) (e : Addr) (b : Int32) (h0 : Heap) (n0 : Nat) (Z0 : n0 ≤ h0.size) (g_o : n0 ≤ o) (E_o : Exa Z h0 o "com/example/plumbline/plumbline/BaseEncoding$Reading") (F_al : Fld Z h0 o "com/example/plumbline/plumbline/BaseEncoding$Reading" "inAlphabet" "Z" (.int (1 : Int32))) (F_enc : Fld Z h0 o "com/example/plumbline/plumbline/BaseEncoding$Reading" "encoding" "Lcom/example/plumbline/plumbline/BaseEncoding;" (.ref e)) (F_P : Fld Z h0 o "com/example/plumbline/plumbline/BaseEncoding$Reading" "pending" "I" (.int P)) (F_hd : Fld Z h0 o "com/example/plumbline/plumbline/BaseEncoding$Reading" "held" "I" (.int hd)) (F_by : Fld Z h0 o "com/example/plumbline/plumbline/BaseEncoding$Reading" "bytes" "[B" .null) (F_cnt : Fld Z h0 o "com/example/plumbline/plumbline/BaseEncoding$Reading" "count" "I" (.int cnt)) (F_b : Fld Z h0 e "com/example/plumbline/plumbline/BaseEncoding" "bits" "I" (.int b)) (E_e : Exa Z h0 e "com/example/plumbline/plumbline/BaseEncoding") (hlt : ¬ (hd + b) < (8 : Int32)) (ne_e_o : e ≠ o) :
    Con l Z ({ frames := 0, cells := 0, slots := 0, locals := 0 } : Room) (⟨"com/example/plumbline/plumbline/BaseEncoding$Reading", "take", "(I)V"⟩ : MethodName) prog_5_method_3_code 2 none n0 #[(.ref o), (.int q0)] h0 (Q20n Z o q0 P hd cnt e b h0) := by
  refine OwnW.Con.of (by first | decide +kernel | exact plainFor_of_name (by simp [plainName, overriddenIn])) (fun m => ef20n m o q0) ?_
  show GoB20n l Z n0 (Q20n Z o q0 P hd cnt e b h0) h0 0 0 0 #[.val (.ref o), .val (.int q0)] []
  refine OwnW.aloadN (pc' := 1) d20_0 rfl (rfl) rfl ?_
  refine OwnW.aloadN (pc' := 2) d20_1 rfl (rfl) rfl ?_
  refine OwnW.getF (a0 := a0) (pc' := 5) d20_2 (host := "") (Or.inl (hw _ (List.mem_of_getElem? (i := 111) rfl))) Via.refl F_P rfl ?_
  refine OwnW.aloadN (pc' := 6) d20_5 rfl (rfl) rfl ?_
  refine OwnW.getF (a0 := a0) (pc' := 9) d20_6 (host := "") (Or.inl (hw _ (List.mem_of_getElem? (i := 20) rfl))) Via.refl F_enc rfl ?_
  refine OwnW.getF (a0 := a0) (pc' := 12) d20_9 (Or.inr (hw _ (List.mem_of_getElem? (i := 113) rfl))) Via.refl F_b rfl ?_
  refine OwnW.ishl (pc' := 13) d20_12 rfl ?_
  refine OwnW.iloadN (pc' := 14) d20_13 rfl rfl ?_
  refine OwnW.ior (pc' := 15) d20_14 rfl ?_
  refine OwnW.putF (a0 := a0) (pc' := 18) d20_15 (host := "") (Or.inl (hw _ (List.mem_of_getElem? (i := 111) rfl))) Via.refl F_P E_o (Or.inl (hw _ (List.mem_of_getElem? (i := 112) rfl))) (hw _ (List.mem_of_getElem? (i := 10) rfl)) (ty := .int) (by decide) rfl rfl g_o rfl ?_
  intro h1 W1
  have sz2 : n0 ≤ h1.size := (by rw [W1.size]; exact Z0)
  have F3 := F_P.same W1
  refine OwnW.aloadN (pc' := 19) d20_18 rfl (rfl) rfl ?_
  refine OwnW.dup (pc' := 20) d20_19 rfl rfl ?_
  have F4 := (F_hd.other W1 (Or.inr (slot_ne (a0 := a0) (C := "com/example/plumbline/plumbline/BaseEncoding$Reading") (Or.inl (hw _ (List.mem_of_getElem? (i := 116) rfl))) (Or.inl (hw _ (List.mem_of_getElem? (i := 112) rfl))) (by decide) (t := .int) (t' := .int) (by decide) (by decide))))
  refine OwnW.getF (a0 := a0) (pc' := 23) d20_20 (host := "") (Or.inl (hw _ (List.mem_of_getElem? (i := 115) rfl))) Via.refl F4 rfl ?_
  refine OwnW.aloadN (pc' := 24) d20_23 rfl (rfl) rfl ?_
  have F5 := (F_enc.other W1 (Or.inr (slot_ne (a0 := a0) (C := "com/example/plumbline/plumbline/BaseEncoding$Reading") (Or.inr (hw _ (List.mem_of_getElem? (i := 21) rfl))) (Or.inl (hw _ (List.mem_of_getElem? (i := 112) rfl))) (by decide) (t := (.object "com/example/plumbline/plumbline/BaseEncoding")) (t' := .int) (by decide) (by decide))))
  refine OwnW.getF (a0 := a0) (pc' := 27) d20_24 (host := "") (Or.inl (hw _ (List.mem_of_getElem? (i := 20) rfl))) Via.refl F5 rfl ?_
  have F6 := (F_b.other W1 (Or.inl ne_e_o))
  refine OwnW.getF (a0 := a0) (pc' := 30) d20_27 (Or.inr (hw _ (List.mem_of_getElem? (i := 113) rfl))) Via.refl F6 rfl ?_
  refine OwnW.iadd (pc' := 31) d20_30 rfl ?_
  have F8 := (E_o.wr W1)
  refine OwnW.putF (a0 := a0) (pc' := 34) d20_31 (host := "") (Or.inl (hw _ (List.mem_of_getElem? (i := 115) rfl))) Via.refl F4 F8 (Or.inl (hw _ (List.mem_of_getElem? (i := 116) rfl))) (hw _ (List.mem_of_getElem? (i := 10) rfl)) (ty := .int) (by decide) rfl rfl g_o rfl ?_
  intro h7 W7
  have sz9 : n0 ≤ h7.size := (by rw [W7.size]; exact sz2)
  have F10 := F4.same W7
  refine OwnW.aloadN (pc' := 35) d20_34 rfl (rfl) rfl ?_
  refine OwnW.getF (a0 := a0) (pc' := 38) d20_35 (host := "") (Or.inl (hw _ (List.mem_of_getElem? (i := 115) rfl))) Via.refl F10 rfl ?_
  refine OwnW.bipush (pc' := 40) (v := (8 : Int32)) d20_38 rfl rfl ?_
  refine OwnW.icmpN (pc' := 43) d20_40 (flt hlt).1 rfl ?_
  refine OwnW.aloadN (pc' := 44) d20_43 rfl (rfl) rfl ?_
  refine OwnW.dup (pc' := 45) d20_44 rfl rfl ?_
  refine OwnW.getF (a0 := a0) (pc' := 48) d20_45 (host := "") (Or.inl (hw _ (List.mem_of_getElem? (i := 115) rfl))) Via.refl F10 rfl ?_
  refine OwnW.bipush (pc' := 50) (v := (8 : Int32)) d20_48 rfl rfl ?_
  refine OwnW.isub (pc' := 51) d20_50 rfl ?_
  have F12 := (F8.wr W7)
  refine OwnW.putF (a0 := a0) (pc' := 54) d20_51 (host := "") (Or.inl (hw _ (List.mem_of_getElem? (i := 115) rfl))) Via.refl F10 F12 (Or.inl (hw _ (List.mem_of_getElem? (i := 116) rfl))) (hw _ (List.mem_of_getElem? (i := 10) rfl)) (ty := .int) (by decide) rfl rfl g_o rfl ?_
  intro h11 W11
  have sz13 : n0 ≤ h11.size := (by rw [W11.size]; exact sz9)
  have F14 := F10.same W11
  refine OwnW.aloadN (pc' := 55) d20_54 rfl (rfl) rfl ?_
  have F15 := (((F_by.other W1 (Or.inr (slot_ne (a0 := a0) (C := "com/example/plumbline/plumbline/BaseEncoding$Reading") (Or.inr (hw _ (List.mem_of_getElem? (i := 23) rfl))) (Or.inl (hw _ (List.mem_of_getElem? (i := 112) rfl))) (by decide) (t := (.array .byte)) (t' := .int) (by decide) (by decide)))).other W7 (Or.inr (slot_ne (a0 := a0) (C := "com/example/plumbline/plumbline/BaseEncoding$Reading") (Or.inr (hw _ (List.mem_of_getElem? (i := 23) rfl))) (Or.inl (hw _ (List.mem_of_getElem? (i := 116) rfl))) (by decide) (t := (.array .byte)) (t' := .int) (by decide) (by decide)))).other W11 (Or.inr (slot_ne (a0 := a0) (C := "com/example/plumbline/plumbline/BaseEncoding$Reading") (Or.inr (hw _ (List.mem_of_getElem? (i := 23) rfl))) (Or.inl (hw _ (List.mem_of_getElem? (i := 116) rfl))) (by decide) (t := (.array .byte)) (t' := .int) (by decide) (by decide))))
  refine OwnW.getF (a0 := a0) (pc' := 58) d20_55 (host := "") (Or.inl (hw _ (List.mem_of_getElem? (i := 22) rfl))) Via.refl F15 rfl ?_
  refine OwnW.ifnullY (pc' := 90) d20_58 (by decide) (by decide) ?_
  refine OwnW.aloadN (pc' := 91) d20_90 rfl (rfl) rfl ?_
  refine OwnW.dup (pc' := 92) d20_91 rfl rfl ?_
  have F16 := ((F3.other W7 (Or.inr (slot_ne (a0 := a0) (C := "com/example/plumbline/plumbline/BaseEncoding$Reading") (Or.inl (hw _ (List.mem_of_getElem? (i := 112) rfl))) (Or.inl (hw _ (List.mem_of_getElem? (i := 116) rfl))) (by decide) (t := .int) (t' := .int) (by decide) (by decide)))).other W11 (Or.inr (slot_ne (a0 := a0) (C := "com/example/plumbline/plumbline/BaseEncoding$Reading") (Or.inl (hw _ (List.mem_of_getElem? (i := 112) rfl))) (Or.inl (hw _ (List.mem_of_getElem? (i := 116) rfl))) (by decide) (t := .int) (t' := .int) (by decide) (by decide))))
  refine OwnW.getF (a0 := a0) (pc' := 95) d20_92 (host := "") (Or.inl (hw _ (List.mem_of_getElem? (i := 111) rfl))) Via.refl F16 rfl ?_
  refine OwnW.iconst (pc' := 96) (v := (1 : Int32)) d20_95 rfl rfl ?_
  refine OwnW.aloadN (pc' := 97) d20_96 rfl (rfl) rfl ?_
  refine OwnW.getF (a0 := a0) (pc' := 100) d20_97 (host := "") (Or.inl (hw _ (List.mem_of_getElem? (i := 115) rfl))) Via.refl F14 rfl ?_
  refine OwnW.ishl (pc' := 101) d20_100 rfl ?_
  refine OwnW.iconst (pc' := 102) (v := (1 : Int32)) d20_101 rfl rfl ?_
  refine OwnW.isub (pc' := 103) d20_102 rfl ?_
  refine OwnW.iand (pc' := 104) d20_103 rfl ?_
  have F18 := (F12.wr W11)
  refine OwnW.putF (a0 := a0) (pc' := 107) d20_104 (host := "") (Or.inl (hw _ (List.mem_of_getElem? (i := 111) rfl))) Via.refl F16 F18 (Or.inl (hw _ (List.mem_of_getElem? (i := 112) rfl))) (hw _ (List.mem_of_getElem? (i := 10) rfl)) (ty := .int) (by decide) rfl rfl g_o rfl ?_
  intro h17 W17
  have sz19 : n0 ≤ h17.size := (by rw [W17.size]; exact sz13)
  have F20 := F16.same W17
  exact OwnW.ret0 d20_107 rfl (by decide) (by decide) (⟨rfl, (((((Keep.refl h0 [o]).wr W1 (Or.inl (List.mem_of_getElem? (i := 0) rfl))).wr W7 (Or.inl (List.mem_of_getElem? (i := 0) rfl))).wr W11 (Or.inl (List.mem_of_getElem? (i := 0) rfl))).wr W17 (Or.inl (List.mem_of_getElem? (i := 0) rfl))), (F18.wr W17), ((((F_al.other W1 (Or.inr (slot_ne (a0 := a0) (C := "com/example/plumbline/plumbline/BaseEncoding$Reading") (Or.inl (hw _ (List.mem_of_getElem? (i := 19) rfl))) (Or.inl (hw _ (List.mem_of_getElem? (i := 112) rfl))) (by decide) (t := .boolean) (t' := .int) (by decide) (by decide)))).other W7 (Or.inr (slot_ne (a0 := a0) (C := "com/example/plumbline/plumbline/BaseEncoding$Reading") (Or.inl (hw _ (List.mem_of_getElem? (i := 19) rfl))) (Or.inl (hw _ (List.mem_of_getElem? (i := 116) rfl))) (by decide) (t := .boolean) (t' := .int) (by decide) (by decide)))).other W11 (Or.inr (slot_ne (a0 := a0) (C := "com/example/plumbline/plumbline/BaseEncoding$Reading") (Or.inl (hw _ (List.mem_of_getElem? (i := 19) rfl))) (Or.inl (hw _ (List.mem_of_getElem? (i := 116) rfl))) (by decide) (t := .boolean) (t' := .int) (by decide) (by decide)))).other W17 (Or.inr (slot_ne (a0 := a0) (C := "com/example/plumbline/plumbline/BaseEncoding$Reading") (Or.inl (hw _ (List.mem_of_getElem? (i := 19) rfl))) (Or.inl (hw _ (List.mem_of_getElem? (i := 112) rfl))) (by decide) (t := .boolean) (t' := .int) (by decide) (by decide)))), (((F5.other W7 (Or.inr (slot_ne (a0 := a0) (C := "com/example/plumbline/plumbline/BaseEncoding$Reading") (Or.inr (hw _ (List.mem_of_getElem? (i := 21) rfl))) (Or.inl (hw _ (List.mem_of_getElem? (i := 116) rfl))) (by decide) (t := (.object "com/example/plumbline/plumbline/BaseEncoding")) (t' := .int) (by decide) (by decide)))).other W11 (Or.inr (slot_ne (a0 := a0) (C := "com/example/plumbline/plumbline/BaseEncoding$Reading") (Or.inr (hw _ (List.mem_of_getElem? (i := 21) rfl))) (Or.inl (hw _ (List.mem_of_getElem? (i := 116) rfl))) (by decide) (t := (.object "com/example/plumbline/plumbline/BaseEncoding")) (t' := .int) (by decide) (by decide)))).other W17 (Or.inr (slot_ne (a0 := a0) (C := "com/example/plumbline/plumbline/BaseEncoding$Reading") (Or.inr (hw _ (List.mem_of_getElem? (i := 21) rfl))) (Or.inl (hw _ (List.mem_of_getElem? (i := 112) rfl))) (by decide) (t := (.object "com/example/plumbline/plumbline/BaseEncoding")) (t' := .int) (by decide) (by decide)))), F20, (F14.other W17 (Or.inr (slot_ne (a0 := a0) (C := "com/example/plumbline/plumbline/BaseEncoding$Reading") (Or.inl (hw _ (List.mem_of_getElem? (i := 116) rfl))) (Or.inl (hw _ (List.mem_of_getElem? (i := 112) rfl))) (by decide) (t := .int) (t' := .int) (by decide) (by decide)))), (F15.other W17 (Or.inr (slot_ne (a0 := a0) (C := "com/example/plumbline/plumbline/BaseEncoding$Reading") (Or.inr (hw _ (List.mem_of_getElem? (i := 23) rfl))) (Or.inl (hw _ (List.mem_of_getElem? (i := 112) rfl))) (by decide) (t := (.array .byte)) (t' := .int) (by decide) (by decide)))), ((((F_cnt.other W1 (Or.inr (slot_ne (a0 := a0) (C := "com/example/plumbline/plumbline/BaseEncoding$Reading") (Or.inl (hw _ (List.mem_of_getElem? (i := 122) rfl))) (Or.inl (hw _ (List.mem_of_getElem? (i := 112) rfl))) (by decide) (t := .int) (t' := .int) (by decide) (by decide)))).other W7 (Or.inr (slot_ne (a0 := a0) (C := "com/example/plumbline/plumbline/BaseEncoding$Reading") (Or.inl (hw _ (List.mem_of_getElem? (i := 122) rfl))) (Or.inl (hw _ (List.mem_of_getElem? (i := 116) rfl))) (by decide) (t := .int) (t' := .int) (by decide) (by decide)))).other W11 (Or.inr (slot_ne (a0 := a0) (C := "com/example/plumbline/plumbline/BaseEncoding$Reading") (Or.inl (hw _ (List.mem_of_getElem? (i := 122) rfl))) (Or.inl (hw _ (List.mem_of_getElem? (i := 116) rfl))) (by decide) (t := .int) (t' := .int) (by decide) (by decide)))).other W17 (Or.inr (slot_ne (a0 := a0) (C := "com/example/plumbline/plumbline/BaseEncoding$Reading") (Or.inl (hw _ (List.mem_of_getElem? (i := 122) rfl))) (Or.inl (hw _ (List.mem_of_getElem? (i := 112) rfl))) (by decide) (t := .int) (t' := .int) (by decide) (by decide))))⟩)
def Q20a (Z : State) (o : Addr) (q0 : Int32) (P : Int32) (hd : Int32) (cnt : Int32) (e : Addr) (b : Int32) (ya : Addr) (h0 : Heap) (v : Option Value) (h : Heap) : Prop := v = none ∧ Keep h0 h [o, ya] ∧ Exa Z h o "com/example/plumbline/plumbline/BaseEncoding$Reading" ∧ Fld Z h o "com/example/plumbline/plumbline/BaseEncoding$Reading" "inAlphabet" "Z" (.int (1 : Int32)) ∧ Fld Z h o "com/example/plumbline/plumbline/BaseEncoding$Reading" "encoding" "Lcom/example/plumbline/plumbline/BaseEncoding;" (.ref e) ∧ Fld Z h o "com/example/plumbline/plumbline/BaseEncoding$Reading" "pending" "I" (.int (((P <<< (b &&& 31)) ||| q0) &&& (((1 : Int32) <<< (((hd + b) - (8 : Int32)) &&& 31)) - (1 : Int32)))) ∧ Fld Z h o "com/example/plumbline/plumbline/BaseEncoding$Reading" "held" "I" (.int ((hd + b) - (8 : Int32))) ∧ Fld Z h o "com/example/plumbline/plumbline/BaseEncoding$Reading" "bytes" "[B" (.ref ya) ∧ Fld Z h o "com/example/plumbline/plumbline/BaseEncoding$Reading" "count" "I" (.int (cnt + (1 : Int32))) ∧ Byt Z h ya
abbrev GoB20a (l : Launch) (Z : State) (n0 : Nat) (Q : Option Value → Heap → Prop) := Go l Z ({ frames := 0, cells := 0, slots := 0, locals := 0 } : Room) (⟨"com/example/plumbline/plumbline/BaseEncoding$Reading", "take", "(I)V"⟩ : MethodName) prog_5_method_3_code 2 none n0 Q
theorem ef20a (m : MethodId) (o : Addr) (q0 : Int32) : entryFrame m #[(.ref o), (.int q0)] 2 = mkF m 0 #[.val (.ref o), .val (.int q0)] [] := by first | (simp [entryFrame, mkF, argsToLocals, Value.category]; done) | rfl
set_option maxRecDepth 65536 in
set_option maxHeartbeats 40000000 in
theorem rm20a (l : Launch) (Z : State) (a0 : Array Value) (hw : ∀ d ∈ tables_1, d.before a0 Z = true) (o : Addr) (q0 : Int32) (P : Int32) (hd : Int32) (cnt : Int32) (e : Addr) (b : Int32) (ya : Addr) (h0 : Heap) (n0 : Nat) (Z0 : n0 ≤ h0.size) (g_o : n0 ≤ o) (g_ya : n0 ≤ ya) (E_o : Exa Z h0 o "com/example/plumbline/plumbline/BaseEncoding$Reading") (F_al : Fld Z h0 o "com/example/plumbline/plumbline/BaseEncoding$Reading" "inAlphabet" "Z" (.int (1 : Int32))) (F_enc : Fld Z h0 o "com/example/plumbline/plumbline/BaseEncoding$Reading" "encoding" "Lcom/example/plumbline/plumbline/BaseEncoding;" (.ref e)) (F_P : Fld Z h0 o "com/example/plumbline/plumbline/BaseEncoding$Reading" "pending" "I" (.int P)) (F_hd : Fld Z h0 o "com/example/plumbline/plumbline/BaseEncoding$Reading" "held" "I" (.int hd)) (F_by : Fld Z h0 o "com/example/plumbline/plumbline/BaseEncoding$Reading" "bytes" "[B" (.ref ya)) (F_cnt : Fld Z h0 o "com/example/plumbline/plumbline/BaseEncoding$Reading" "count" "I" (.int cnt)) (F_b : Fld Z h0 e "com/example/plumbline/plumbline/BaseEncoding" "bits" "I" (.int b)) (E_e : Exa Z h0 e "com/example/plumbline/plumbline/BaseEncoding") (Y_by : Byt Z h0 ya) (hlt : ¬ (hd + b) < (8 : Int32)) (hcnt : ¬ (cnt < 0 ∨ 6 ≤ cnt.toNatClampNeg)) (ne_e_o : e ≠ o) (ne_ya_o : ya ≠ o) (ne_e_ya : e ≠ ya) :
    Con l Z ({ frames := 0, cells := 0, slots := 0, locals := 0 } : Room) (⟨"com/example/plumbline/plumbline/BaseEncoding$Reading", "take", "(I)V"⟩ : MethodName) prog_5_method_3_code 2 none n0 #[(.ref o), (.int q0)] h0 (Q20a Z o q0 P hd cnt e b ya h0) := by
  refine OwnW.Con.of (by first | decide +kernel | exact plainFor_of_name (by simp [plainName, overriddenIn])) (fun m => ef20a m o q0) ?_
  show GoB20a l Z n0 (Q20a Z o q0 P hd cnt e b ya h0) h0 0 0 0 #[.val (.ref o), .val (.int q0)] []
  refine OwnW.aloadN (pc' := 1) d20_0 rfl (rfl) rfl ?_
  refine OwnW.aloadN (pc' := 2) d20_1 rfl (rfl) rfl ?_
  refine OwnW.getF (a0 := a0) (pc' := 5) d20_2 (host := "") (Or.inl (hw _ (List.mem_of_getElem? (i := 111) rfl))) Via.refl F_P rfl ?_
  refine OwnW.aloadN (pc' := 6) d20_5 rfl (rfl) rfl ?_
  refine OwnW.getF (a0 := a0) (pc' := 9) d20_6 (host := "") (Or.inl (hw _ (List.mem_of_getElem? (i := 20) rfl))) Via.refl F_enc rfl ?_
  refine OwnW.getF (a0 := a0) (pc' := 12) d20_9 (Or.inr (hw _ (List.mem_of_getElem? (i := 113) rfl))) Via.refl F_b rfl ?_
  refine OwnW.ishl (pc' := 13) d20_12 rfl ?_
  refine OwnW.iloadN (pc' := 14) d20_13 rfl rfl ?_
  refine OwnW.ior (pc' := 15) d20_14 rfl ?_
  refine OwnW.putF (a0 := a0) (pc' := 18) d20_15 (host := "") (Or.inl (hw _ (List.mem_of_getElem? (i := 111) rfl))) Via.refl F_P E_o (Or.inl (hw _ (List.mem_of_getElem? (i := 112) rfl))) (hw _ (List.mem_of_getElem? (i := 10) rfl)) (ty := .int) (by decide) rfl rfl g_o rfl ?_
  intro h1 W1
  have sz2 : n0 ≤ h1.size := (by rw [W1.size]; exact Z0)
  have F3 := F_P.same W1
  refine OwnW.aloadN (pc' := 19) d20_18 rfl (rfl) rfl ?_
  refine OwnW.dup (pc' := 20) d20_19 rfl rfl ?_
  have F4 := (F_hd.other W1 (Or.inr (slot_ne (a0 := a0) (C := "com/example/plumbline/plumbline/BaseEncoding$Reading") (Or.inl (hw _ (List.mem_of_getElem? (i := 116) rfl))) (Or.inl (hw _ (List.mem_of_getElem? (i := 112) rfl))) (by decide) (t := .int) (t' := .int) (by decide) (by decide))))
  refine OwnW.getF (a0 := a0) (pc' := 23) d20_20 (host := "") (Or.inl (hw _ (List.mem_of_getElem? (i := 115) rfl))) Via.refl F4 rfl ?_
  refine OwnW.aloadN (pc' := 24) d20_23 rfl (rfl) rfl ?_
  have F5 := (F_enc.other W1 (Or.inr (slot_ne (a0 := a0) (C := "com/example/plumbline/plumbline/BaseEncoding$Reading") (Or.inr (hw _ (List.mem_of_getElem? (i := 21) rfl))) (Or.inl (hw _ (List.mem_of_getElem? (i := 112) rfl))) (by decide) (t := (.object "com/example/plumbline/plumbline/BaseEncoding")) (t' := .int) (by decide) (by decide))))
  refine OwnW.getF (a0 := a0) (pc' := 27) d20_24 (host := "") (Or.inl (hw _ (List.mem_of_getElem? (i := 20) rfl))) Via.refl F5 rfl ?_
  have F6 := (F_b.other W1 (Or.inl ne_e_o))
  refine OwnW.getF (a0 := a0) (pc' := 30) d20_27 (Or.inr (hw _ (List.mem_of_getElem? (i := 113) rfl))) Via.refl F6 rfl ?_
  refine OwnW.iadd (pc' := 31) d20_30 rfl ?_
  have F8 := (E_o.wr W1)
  refine OwnW.putF (a0 := a0) (pc' := 34) d20_31 (host := "") (Or.inl (hw _ (List.mem_of_getElem? (i := 115) rfl))) Via.refl F4 F8 (Or.inl (hw _ (List.mem_of_getElem? (i := 116) rfl))) (hw _ (List.mem_of_getElem? (i := 10) rfl)) (ty := .int) (by decide) rfl rfl g_o rfl ?_
  intro h7 W7
  have sz9 : n0 ≤ h7.size := (by rw [W7.size]; exact sz2)
  have F10 := F4.same W7
  refine OwnW.aloadN (pc' := 35) d20_34 rfl (rfl) rfl ?_
  refine OwnW.getF (a0 := a0) (pc' := 38) d20_35 (host := "") (Or.inl (hw _ (List.mem_of_getElem? (i := 115) rfl))) Via.refl F10 rfl ?_
  refine OwnW.bipush (pc' := 40) (v := (8 : Int32)) d20_38 rfl rfl ?_
  refine OwnW.icmpN (pc' := 43) d20_40 (flt hlt).1 rfl ?_
  refine OwnW.aloadN (pc' := 44) d20_43 rfl (rfl) rfl ?_
  refine OwnW.dup (pc' := 45) d20_44 rfl rfl ?_
  refine OwnW.getF (a0 := a0) (pc' := 48) d20_45 (host := "") (Or.inl (hw _ (List.mem_of_getElem? (i := 115) rfl))) Via.refl F10 rfl ?_
  refine OwnW.bipush (pc' := 50) (v := (8 : Int32)) d20_48 rfl rfl ?_
  refine OwnW.isub (pc' := 51) d20_50 rfl ?_
  have F12 := (F8.wr W7)
  refine OwnW.putF (a0 := a0) (pc' := 54) d20_51 (host := "") (Or.inl (hw _ (List.mem_of_getElem? (i := 115) rfl))) Via.refl F10 F12 (Or.inl (hw _ (List.mem_of_getElem? (i := 116) rfl))) (hw _ (List.mem_of_getElem? (i := 10) rfl)) (ty := .int) (by decide) rfl rfl g_o rfl ?_
  intro h11 W11
  have sz13 : n0 ≤ h11.size := (by rw [W11.size]; exact sz9)
  have F14 := F10.same W11
  refine OwnW.aloadN (pc' := 55) d20_54 rfl (rfl) rfl ?_
  have F15 := (((F_by.other W1 (Or.inr (slot_ne (a0 := a0) (C := "com/example/plumbline/plumbline/BaseEncoding$Reading") (Or.inr (hw _ (List.mem_of_getElem? (i := 23) rfl))) (Or.inl (hw _ (List.mem_of_getElem? (i := 112) rfl))) (by decide) (t := (.array .byte)) (t' := .int) (by decide) (by decide)))).other W7 (Or.inr (slot_ne (a0 := a0) (C := "com/example/plumbline/plumbline/BaseEncoding$Reading") (Or.inr (hw _ (List.mem_of_getElem? (i := 23) rfl))) (Or.inl (hw _ (List.mem_of_getElem? (i := 116) rfl))) (by decide) (t := (.array .byte)) (t' := .int) (by decide) (by decide)))).other W11 (Or.inr (slot_ne (a0 := a0) (C := "com/example/plumbline/plumbline/BaseEncoding$Reading") (Or.inr (hw _ (List.mem_of_getElem? (i := 23) rfl))) (Or.inl (hw _ (List.mem_of_getElem? (i := 116) rfl))) (by decide) (t := (.array .byte)) (t' := .int) (by decide) (by decide))))
  refine OwnW.getF (a0 := a0) (pc' := 58) d20_55 (host := "") (Or.inl (hw _ (List.mem_of_getElem? (i := 22) rfl))) Via.refl F15 rfl ?_
  refine OwnW.ifnullN (pc' := 61) d20_58 rfl ?_
  refine OwnW.aloadN (pc' := 62) d20_61 rfl (rfl) rfl ?_
  refine OwnW.getF (a0 := a0) (pc' := 65) d20_62 (host := "") (Or.inl (hw _ (List.mem_of_getElem? (i := 22) rfl))) Via.refl F15 rfl ?_
  refine OwnW.aloadN (pc' := 66) d20_65 rfl (rfl) rfl ?_
  have F16 := (((F_cnt.other W1 (Or.inr (slot_ne (a0 := a0) (C := "com/example/plumbline/plumbline/BaseEncoding$Reading") (Or.inl (hw _ (List.mem_of_getElem? (i := 122) rfl))) (Or.inl (hw _ (List.mem_of_getElem? (i := 112) rfl))) (by decide) (t := .int) (t' := .int) (by decide) (by decide)))).other W7 (Or.inr (slot_ne (a0 := a0) (C := "com/example/plumbline/plumbline/BaseEncoding$Reading") (Or.inl (hw _ (List.mem_of_getElem? (i := 122) rfl))) (Or.inl (hw _ (List.mem_of_getElem? (i := 116) rfl))) (by decide) (t := .int) (t' := .int) (by decide) (by decide)))).other W11 (Or.inr (slot_ne (a0 := a0) (C := "com/example/plumbline/plumbline/BaseEncoding$Reading") (Or.inl (hw _ (List.mem_of_getElem? (i := 122) rfl))) (Or.inl (hw _ (List.mem_of_getElem? (i := 116) rfl))) (by decide) (t := .int) (t' := .int) (by decide) (by decide))))
  refine OwnW.getF (a0 := a0) (pc' := 69) d20_66 (host := "") (Or.inl (hw _ (List.mem_of_getElem? (i := 121) rfl))) Via.refl F16 rfl ?_
  refine OwnW.aloadN (pc' := 70) d20_69 rfl (rfl) rfl ?_
  have F17 := ((F3.other W7 (Or.inr (slot_ne (a0 := a0) (C := "com/example/plumbline/plumbline/BaseEncoding$Reading") (Or.inl (hw _ (List.mem_of_getElem? (i := 112) rfl))) (Or.inl (hw _ (List.mem_of_getElem? (i := 116) rfl))) (by decide) (t := .int) (t' := .int) (by decide) (by decide)))).other W11 (Or.inr (slot_ne (a0 := a0) (C := "com/example/plumbline/plumbline/BaseEncoding$Reading") (Or.inl (hw _ (List.mem_of_getElem? (i := 112) rfl))) (Or.inl (hw _ (List.mem_of_getElem? (i := 116) rfl))) (by decide) (t := .int) (t' := .int) (by decide) (by decide))))
  refine OwnW.getF (a0 := a0) (pc' := 73) d20_70 (host := "") (Or.inl (hw _ (List.mem_of_getElem? (i := 111) rfl))) Via.refl F17 rfl ?_
  refine OwnW.aloadN (pc' := 74) d20_73 rfl (rfl) rfl ?_
  refine OwnW.getF (a0 := a0) (pc' := 77) d20_74 (host := "") (Or.inl (hw _ (List.mem_of_getElem? (i := 115) rfl))) Via.refl F14 rfl ?_
  refine OwnW.ishr (pc' := 78) d20_77 rfl ?_
  refine OwnW.i2b (pc' := 79) d20_78 rfl ?_
  have F18 := (((Y_by.other W1 ne_ya_o).other W7 ne_ya_o).other W11 ne_ya_o)
  obtain ⟨cly, Ay, Sy⟩ := id F18
  refine OwnW.stB (pc' := 80) d20_79 Ay (by rw [Sy]; exact hcnt) g_ya rfl ?_
  intro hy Wy
  have sz19 : n0 ≤ hy.size := (by rw [Wy.size]; exact sz13)
  have Y_2 : Byt Z hy ya := Byt.same ⟨cly, Ay, Sy⟩ Wy
  show GoB20a l Z n0 (Q20a Z o q0 P hd cnt e b ya h0) hy 0 0 80 #[.val (.ref o), .val (.int q0)] []
  refine OwnW.aloadN (pc' := 81) d20_80 rfl (rfl) rfl ?_
  refine OwnW.dup (pc' := 82) d20_81 rfl rfl ?_
  have F20 := (F16.other Wy (Or.inl (Ne.symm ne_ya_o)))
  refine OwnW.getF (a0 := a0) (pc' := 85) d20_82 (host := "") (Or.inl (hw _ (List.mem_of_getElem? (i := 121) rfl))) Via.refl F20 rfl ?_
  refine OwnW.iconst (pc' := 86) (v := (1 : Int32)) d20_85 rfl rfl ?_
  refine OwnW.iadd (pc' := 87) d20_86 rfl ?_
  have F22 := ((F12.wr W11).wr Wy)
  refine OwnW.putF (a0 := a0) (pc' := 90) d20_87 (host := "") (Or.inl (hw _ (List.mem_of_getElem? (i := 121) rfl))) Via.refl F20 F22 (Or.inl (hw _ (List.mem_of_getElem? (i := 122) rfl))) (hw _ (List.mem_of_getElem? (i := 10) rfl)) (ty := .int) (by decide) rfl rfl g_o rfl ?_
  intro h21 W21
  have sz23 : n0 ≤ h21.size := (by rw [W21.size]; exact sz19)
  have F24 := F20.same W21
  refine OwnW.aloadN (pc' := 91) d20_90 rfl (rfl) rfl ?_
  refine OwnW.dup (pc' := 92) d20_91 rfl rfl ?_
  have F25 := ((F17.other Wy (Or.inl (Ne.symm ne_ya_o))).other W21 (Or.inr (slot_ne (a0 := a0) (C := "com/example/plumbline/plumbline/BaseEncoding$Reading") (Or.inl (hw _ (List.mem_of_getElem? (i := 112) rfl))) (Or.inl (hw _ (List.mem_of_getElem? (i := 122) rfl))) (by decide) (t := .int) (t' := .int) (by decide) (by decide))))
  refine OwnW.getF (a0 := a0) (pc' := 95) d20_92 (host := "") (Or.inl (hw _ (List.mem_of_getElem? (i := 111) rfl))) Via.refl F25 rfl ?_
  refine OwnW.iconst (pc' := 96) (v := (1 : Int32)) d20_95 rfl rfl ?_
  refine OwnW.aloadN (pc' := 97) d20_96 rfl (rfl) rfl ?_
  have F26 := ((F14.other Wy (Or.inl (Ne.symm ne_ya_o))).other W21 (Or.inr (slot_ne (a0 := a0) (C := "com/example/plumbline/plumbline/BaseEncoding$Reading") (Or.inl (hw _ (List.mem_of_getElem? (i := 116) rfl))) (Or.inl (hw _ (List.mem_of_getElem? (i := 122) rfl))) (by decide) (t := .int) (t' := .int) (by decide) (by decide))))
  refine OwnW.getF (a0 := a0) (pc' := 100) d20_97 (host := "") (Or.inl (hw _ (List.mem_of_getElem? (i := 115) rfl))) Via.refl F26 rfl ?_
  refine OwnW.ishl (pc' := 101) d20_100 rfl ?_
  refine OwnW.iconst (pc' := 102) (v := (1 : Int32)) d20_101 rfl rfl ?_
  refine OwnW.isub (pc' := 103) d20_102 rfl ?_
  refine OwnW.iand (pc' := 104) d20_103 rfl ?_
  have F28 := (F22.wr W21)
  refine OwnW.putF (a0 := a0) (pc' := 107) d20_104 (host := "") (Or.inl (hw _ (List.mem_of_getElem? (i := 111) rfl))) Via.refl F25 F28 (Or.inl (hw _ (List.mem_of_getElem? (i := 112) rfl))) (hw _ (List.mem_of_getElem? (i := 10) rfl)) (ty := .int) (by decide) rfl rfl g_o rfl ?_
  intro h27 W27
  have sz29 : n0 ≤ h27.size := (by rw [W27.size]; exact sz23)
  have F30 := F25.same W27
  exact OwnW.ret0 d20_107 rfl (by decide) (by decide) (⟨rfl, (((((((Keep.refl h0 [o, ya]).wr W1 (Or.inl (List.mem_of_getElem? (i := 0) rfl))).wr W7 (Or.inl (List.mem_of_getElem? (i := 0) rfl))).wr W11 (Or.inl (List.mem_of_getElem? (i := 0) rfl))).wr Wy (Or.inl (List.mem_of_getElem? (i := 1) rfl))).wr W21 (Or.inl (List.mem_of_getElem? (i := 0) rfl))).wr W27 (Or.inl (List.mem_of_getElem? (i := 0) rfl))), (F28.wr W27), ((((((F_al.other W1 (Or.inr (slot_ne (a0 := a0) (C := "com/example/plumbline/plumbline/BaseEncoding$Reading") (Or.inl (hw _ (List.mem_of_getElem? (i := 19) rfl))) (Or.inl (hw _ (List.mem_of_getElem? (i := 112) rfl))) (by decide) (t := .boolean) (t' := .int) (by decide) (by decide)))).other W7 (Or.inr (slot_ne (a0 := a0) (C := "com/example/plumbline/plumbline/BaseEncoding$Reading") (Or.inl (hw _ (List.mem_of_getElem? (i := 19) rfl))) (Or.inl (hw _ (List.mem_of_getElem? (i := 116) rfl))) (by decide) (t := .boolean) (t' := .int) (by decide) (by decide)))).other W11 (Or.inr (slot_ne (a0 := a0) (C := "com/example/plumbline/plumbline/BaseEncoding$Reading") (Or.inl (hw _ (List.mem_of_getElem? (i := 19) rfl))) (Or.inl (hw _ (List.mem_of_getElem? (i := 116) rfl))) (by decide) (t := .boolean) (t' := .int) (by decide) (by decide)))).other Wy (Or.inl (Ne.symm ne_ya_o))).other W21 (Or.inr (slot_ne (a0 := a0) (C := "com/example/plumbline/plumbline/BaseEncoding$Reading") (Or.inl (hw _ (List.mem_of_getElem? (i := 19) rfl))) (Or.inl (hw _ (List.mem_of_getElem? (i := 122) rfl))) (by decide) (t := .boolean) (t' := .int) (by decide) (by decide)))).other W27 (Or.inr (slot_ne (a0 := a0) (C := "com/example/plumbline/plumbline/BaseEncoding$Reading") (Or.inl (hw _ (List.mem_of_getElem? (i := 19) rfl))) (Or.inl (hw _ (List.mem_of_getElem? (i := 112) rfl))) (by decide) (t := .boolean) (t' := .int) (by decide) (by decide)))), (((((F5.other W7 (Or.inr (slot_ne (a0 := a0) (C := "com/example/plumbline/plumbline/BaseEncoding$Reading") (Or.inr (hw _ (List.mem_of_getElem? (i := 21) rfl))) (Or.inl (hw _ (List.mem_of_getElem? (i := 116) rfl))) (by decide) (t := (.object "com/example/plumbline/plumbline/BaseEncoding")) (t' := .int) (by decide) (by decide)))).other W11 (Or.inr (slot_ne (a0 := a0) (C := "com/example/plumbline/plumbline/BaseEncoding$Reading") (Or.inr (hw _ (List.mem_of_getElem? (i := 21) rfl))) (Or.inl (hw _ (List.mem_of_getElem? (i := 116) rfl))) (by decide) (t := (.object "com/example/plumbline/plumbline/BaseEncoding")) (t' := .int) (by decide) (by decide)))).other Wy (Or.inl (Ne.symm ne_ya_o))).other W21 (Or.inr (slot_ne (a0 := a0) (C := "com/example/plumbline/plumbline/BaseEncoding$Reading") (Or.inr (hw _ (List.mem_of_getElem? (i := 21) rfl))) (Or.inl (hw _ (List.mem_of_getElem? (i := 122) rfl))) (by decide) (t := (.object "com/example/plumbline/plumbline/BaseEncoding")) (t' := .int) (by decide) (by decide)))).other W27 (Or.inr (slot_ne (a0 := a0) (C := "com/example/plumbline/plumbline/BaseEncoding$Reading") (Or.inr (hw _ (List.mem_of_getElem? (i := 21) rfl))) (Or.inl (hw _ (List.mem_of_getElem? (i := 112) rfl))) (by decide) (t := (.object "com/example/plumbline/plumbline/BaseEncoding")) (t' := .int) (by decide) (by decide)))), F30, (F26.other W27 (Or.inr (slot_ne (a0 := a0) (C := "com/example/plumbline/plumbline/BaseEncoding$Reading") (Or.inl (hw _ (List.mem_of_getElem? (i := 116) rfl))) (Or.inl (hw _ (List.mem_of_getElem? (i := 112) rfl))) (by decide) (t := .int) (t' := .int) (by decide) (by decide)))), (((F15.other Wy (Or.inl (Ne.symm ne_ya_o))).other W21 (Or.inr (slot_ne (a0 := a0) (C := "com/example/plumbline/plumbline/BaseEncoding$Reading") (Or.inr (hw _ (List.mem_of_getElem? (i := 23) rfl))) (Or.inl (hw _ (List.mem_of_getElem? (i := 122) rfl))) (by decide) (t := (.array .byte)) (t' := .int) (by decide) (by decide)))).other W27 (Or.inr (slot_ne (a0 := a0) (C := "com/example/plumbline/plumbline/BaseEncoding$Reading") (Or.inr (hw _ (List.mem_of_getElem? (i := 23) rfl))) (Or.inl (hw _ (List.mem_of_getElem? (i := 112) rfl))) (by decide) (t := (.array .byte)) (t' := .int) (by decide) (by decide)))), (F24.other W27 (Or.inr (slot_ne (a0 := a0) (C := "com/example/plumbline/plumbline/BaseEncoding$Reading") (Or.inl (hw _ (List.mem_of_getElem? (i := 122) rfl))) (Or.inl (hw _ (List.mem_of_getElem? (i := 112) rfl))) (by decide) (t := .int) (t' := .int) (by decide) (by decide)))), ((Y_2.other W21 ne_ya_o).other W27 ne_ya_o)⟩)
theorem d8_0 : decode prog_5_method_2_code 0 = .ok (.iconst 0, 1) := by decide +kernel
theorem d8_1 : decode prog_5_method_2_code 1 = .ok (.istore_n 2, 1) := by decide +kernel
theorem d8_2 : decode prog_5_method_2_code 2 = .ok (.iload_n 2, 1) := by decide +kernel
theorem d8_3 : decode prog_5_method_2_code 3 = .ok (.aload_n 1, 1) := by decide +kernel
theorem d8_4 : decode prog_5_method_2_code 4 = .ok (.invokeinterface 23 1, 5) := by decide +kernel
theorem d8_9 : decode prog_5_method_2_code 9 = .ok (.if_icmp .ge 73, 3) := by decide +kernel
theorem d8_12 : decode prog_5_method_2_code 12 = .ok (.aload_n 0, 1) := by decide +kernel
theorem d8_13 : decode prog_5_method_2_code 13 = .ok (.getfield 9, 3) := by decide +kernel
theorem d8_16 : decode prog_5_method_2_code 16 = .ok (.ifCond .eq 66, 3) := by decide +kernel
theorem d8_19 : decode prog_5_method_2_code 19 = .ok (.aload_n 1, 1) := by decide +kernel
theorem d8_20 : decode prog_5_method_2_code 20 = .ok (.iload_n 2, 1) := by decide +kernel
theorem d8_21 : decode prog_5_method_2_code 21 = .ok (.invokeinterface 29 2, 5) := by decide +kernel
theorem d8_26 : decode prog_5_method_2_code 26 = .ok (.istore_n 3, 1) := by decide +kernel
theorem d8_27 : decode prog_5_method_2_code 27 = .ok (.iload_n 3, 1) := by decide +kernel
theorem d8_28 : decode prog_5_method_2_code 28 = .ok (.sipush 128, 3) := by decide +kernel
theorem d8_31 : decode prog_5_method_2_code 31 = .ok (.if_icmp .ge 15, 3) := by decide +kernel
theorem d8_34 : decode prog_5_method_2_code 34 = .ok (.aload_n 0, 1) := by decide +kernel
theorem d8_35 : decode prog_5_method_2_code 35 = .ok (.getfield 15, 3) := by decide +kernel
theorem d8_38 : decode prog_5_method_2_code 38 = .ok (.getfield 33, 3) := by decide +kernel
theorem d8_41 : decode prog_5_method_2_code 41 = .ok (.iload_n 3, 1) := by decide +kernel
theorem d8_42 : decode prog_5_method_2_code 42 = .ok (.iaload, 1) := by decide +kernel
theorem d8_43 : decode prog_5_method_2_code 43 = .ok (.goto 4, 3) := by decide +kernel
theorem d8_46 : decode prog_5_method_2_code 46 = .ok (.iconst (-1), 1) := by decide +kernel
theorem d8_47 : decode prog_5_method_2_code 47 = .ok (.istore 4, 2) := by decide +kernel
theorem d8_49 : decode prog_5_method_2_code 49 = .ok (.aload_n 0, 1) := by decide +kernel
theorem d8_50 : decode prog_5_method_2_code 50 = .ok (.iload 4, 2) := by decide +kernel
theorem d8_52 : decode prog_5_method_2_code 52 = .ok (.ifCond .lt 7, 3) := by decide +kernel
theorem d8_55 : decode prog_5_method_2_code 55 = .ok (.iconst 1, 1) := by decide +kernel
theorem d8_56 : decode prog_5_method_2_code 56 = .ok (.goto 4, 3) := by decide +kernel
theorem d8_59 : decode prog_5_method_2_code 59 = .ok (.iconst 0, 1) := by decide +kernel
theorem d8_60 : decode prog_5_method_2_code 60 = .ok (.putfield 9, 3) := by decide +kernel
theorem d8_63 : decode prog_5_method_2_code 63 = .ok (.aload_n 0, 1) := by decide +kernel
theorem d8_64 : decode prog_5_method_2_code 64 = .ok (.getfield 9, 3) := by decide +kernel
theorem d8_67 : decode prog_5_method_2_code 67 = .ok (.ifCond .eq 9, 3) := by decide +kernel
theorem d8_70 : decode prog_5_method_2_code 70 = .ok (.aload_n 0, 1) := by decide +kernel
theorem d8_71 : decode prog_5_method_2_code 71 = .ok (.iload 4, 2) := by decide +kernel
theorem d8_73 : decode prog_5_method_2_code 73 = .ok (.invokevirtual 37, 3) := by decide +kernel
theorem d8_76 : decode prog_5_method_2_code 76 = .ok (.iinc 2 1, 3) := by decide +kernel
theorem d8_79 : decode prog_5_method_2_code 79 = .ok (.goto (-77), 3) := by decide +kernel
theorem d8_82 : decode prog_5_method_2_code 82 = .ok (.return_, 1) := by decide +kernel
def Q8z (Z : State) (o : Addr) (q0 : Addr) (cs : Int32) (bb : Addr) (bk : ClassId) (bv : Int32) (sv : Value) (h0 : Heap) (v : Option Value) (h : Heap) : Prop := v = none ∧ Keep h0 h [o] ∧ Exa Z h o "com/example/plumbline/plumbline/BaseEncoding$Reading" ∧ Fld Z h o "com/example/plumbline/plumbline/BaseEncoding$Reading" "inAlphabet" "Z" (.int (0 : Int32))
abbrev GoB8z (l : Launch) (Z : State) (n0 : Nat) (Q : Option Value → Heap → Prop) := Go l Z ({ frames := 2, cells := 0, slots := 0, locals := 26 } : Room) (⟨"com/example/plumbline/plumbline/BaseEncoding$Reading", "append", "(Ljava/lang/CharSequence;)V"⟩ : MethodName) prog_5_method_2_code 5 none n0 Q
theorem ef8z (m : MethodId) (o : Addr) (q0 : Addr) : entryFrame m #[(.ref o), (.ref q0)] 5 = mkF m 0 #[.val (.ref o), .val (.ref q0), .unset, .unset, .unset] [] := by first | (simp [entryFrame, mkF, argsToLocals, Value.category]; done) | rfl
set_option maxRecDepth 65536 in
set_option maxHeartbeats 40000000 in
theorem rm8z (l : Launch) (Z : State) (a0 : Array Value) (hw : ∀ d ∈ tables_1, d.before a0 Z = true) (o : Addr) (q0 : Addr) (cs : Int32) (bb : Addr) (bk : ClassId) (bv : Int32) (sv : Value) (h0 : Heap) (n0 : Nat) (Z0 : n0 ≤ h0.size) (g_o : n0 ≤ o) (E_o : Exa Z h0 o "com/example/plumbline/plumbline/BaseEncoding$Reading") (F_al : Fld Z h0 o "com/example/plumbline/plumbline/BaseEncoding$Reading" "inAlphabet" "Z" (.int (0 : Int32))) (E_q : Exa Z h0 q0 "java/lang/String") (F_c : Fld Z h0 q0 "java/lang/String" "coder" "B" (.int (0 : Int32))) (F_v : Fld Z h0 q0 "java/lang/String" "value" "[B" (.ref bb)) (A_b : Arv Z h0 bb bk .byte (1 : Int32) [(.int bv)] (.int (0 : Int32))) (S_CS : Sta Z h0 "java/lang/String" "COMPACT_STRINGS" "Z" (.int cs)) (S_SF : Sta Z h0 "jdk/internal/util/Preconditions" "SIOOBE_FORMATTER" "Ljava/util/function/BiFunction;" sv) (hcs : ¬ cs = (0 : Int32)) (hsv : sv.isRef = true) :
    Con l Z ({ frames := 2, cells := 0, slots := 0, locals := 26 } : Room) (⟨"com/example/plumbline/plumbline/BaseEncoding$Reading", "append", "(Ljava/lang/CharSequence;)V"⟩ : MethodName) prog_5_method_2_code 5 none n0 #[(.ref o), (.ref q0)] h0 (Q8z Z o q0 cs bb bk bv sv h0) := by
  refine OwnW.Con.of (by first | decide +kernel | exact plainFor_of_name (by simp [plainName, overriddenIn])) (fun m => ef8z m o q0) ?_
  show GoB8z l Z n0 (Q8z Z o q0 cs bb bk bv sv h0) h0 0 0 0 #[.val (.ref o), .val (.ref q0), .unset, .unset, .unset] []
  refine OwnW.iconst (pc' := 1) (v := (0 : Int32)) d8_0 rfl rfl ?_
  refine OwnW.istoreN (pc' := 2) (L' := #[.val (.ref o), .val (.ref q0), .val (.int (0 : Int32)), .unset, .unset]) d8_1 rfl rfl ?_
  refine OwnW.iloadN (pc' := 3) d8_2 rfl rfl ?_
  refine OwnW.aloadN (pc' := 4) d8_3 rfl (rfl) rfl ?_
  refine OwnW.callVF0 (a0 := a0) (pc' := 9) (W := 1) (k' := 0) (n' := 0) (argsL := []) (rest := [(.int (0 : Int32))]) (St' := [(.int (f9 q0 cs bb bk bv)), (.int (0 : Int32))]) d8_4 (hw _ (List.mem_of_getElem? (i := 53) rfl)) (hw _ (List.mem_of_getElem? (i := 54) rfl)) (hw _ (List.mem_of_getElem? (i := 55) rfl)) (hw _ (List.mem_of_getElem? (i := 56) rfl)) (hw _ (List.mem_of_getElem? (i := 57) rfl)) (hw _ (List.mem_of_getElem? (i := 58) rfl)) (hw _ (List.mem_of_getElem? (i := 59) rfl)) (hw _ (List.mem_of_getElem? (i := 60) rfl)) (hw _ (List.mem_of_getElem? (i := 26) rfl)) (hw _ (List.mem_of_getElem? (i := 61) rfl)) (by decide) E_q (rm9 l Z a0 hw q0 cs bb bk bv h0 n0 E_q S_CS F_c F_v A_b hcs) (by decide) (by decide) rfl rfl (by decide) (by decide) rfl pd_2829I rfl rfl rfl (Nat.le_of_ble_eq_true rfl) rfl rfl ?_
  rw [show (f9 q0 cs bb bk bv) = (1 : Int32) from rfl]
  show GoB8z l Z n0 (Q8z Z o q0 cs bb bk bv sv h0) h0 0 0 9 #[.val (.ref o), .val (.ref q0), .val (.int (0 : Int32)), .unset, .unset] [(.int (1 : Int32)), (.int (0 : Int32))]
  refine OwnW.icmpN (pc' := 12) d8_9 (tlt (by decide)).2.1 rfl ?_
  refine OwnW.aloadN (pc' := 13) d8_12 rfl (rfl) rfl ?_
  refine OwnW.getF (a0 := a0) (pc' := 16) d8_13 (host := "") (Or.inl (hw _ (List.mem_of_getElem? (i := 18) rfl))) Via.refl F_al rfl ?_
  refine OwnW.ifcY (pc' := 82) d8_16 ((if0 _ _).trans (teq (by decide)).1) (by decide) (by decide) ?_
  exact OwnW.ret0 d8_82 rfl (by decide) (by decide) (⟨rfl, (Keep.refl h0 [o]), E_o, F_al⟩)
def Q8xn (Z : State) (o : Addr) (q0 : Addr) (cs : Int32) (bb : Addr) (bk : ClassId) (bv : Int32) (sv : Value) (c : Int32) (P : Int32) (hd : Int32) (cnt : Int32) (e : Addr) (b : Int32) (k : Int32) (t : Addr) (h0 : Heap) (v : Option Value) (h : Heap) : Prop := v = none ∧ Keep h0 h [o] ∧ Exa Z h o "com/example/plumbline/plumbline/BaseEncoding$Reading" ∧ Fld Z h o "com/example/plumbline/plumbline/BaseEncoding$Reading" "inAlphabet" "Z" (.int (0 : Int32))
abbrev GoB8xn (l : Launch) (Z : State) (n0 : Nat) (Q : Option Value → Heap → Prop) := Go l Z ({ frames := 4, cells := 0, slots := 0, locals := 53 } : Room) (⟨"com/example/plumbline/plumbline/BaseEncoding$Reading", "append", "(Ljava/lang/CharSequence;)V"⟩ : MethodName) prog_5_method_2_code 5 none n0 Q
theorem ef8xn (m : MethodId) (o : Addr) (q0 : Addr) : entryFrame m #[(.ref o), (.ref q0)] 5 = mkF m 0 #[.val (.ref o), .val (.ref q0), .unset, .unset, .unset] [] := by first | (simp [entryFrame, mkF, argsToLocals, Value.category]; done) | rfl
set_option maxRecDepth 65536 in
set_option maxHeartbeats 40000000 in
theorem rm8xn (l : Launch) (Z : State) (a0 : Array Value) (hw : ∀ d ∈ tables_1, d.before a0 Z = true) (o : Addr) (q0 : Addr) (cs : Int32) (bb : Addr) (bk : ClassId) (bv : Int32) (sv : Value) (c : Int32) (P : Int32) (hd : Int32) (cnt : Int32) (e : Addr) (b : Int32) (k : Int32) (t : Addr) (h0 : Heap) (n0 : Nat) (Z0 : n0 ≤ h0.size) (g_o : n0 ≤ o) (E_o : Exa Z h0 o "com/example/plumbline/plumbline/BaseEncoding$Reading") (F_al : Fld Z h0 o "com/example/plumbline/plumbline/BaseEncoding$Reading" "inAlphabet" "Z" (.int (1 : Int32))) (F_enc : Fld Z h0 o "com/example/plumbline/plumbline/BaseEncoding$Reading" "encoding" "Lcom/example/plumbline/plumbline/BaseEncoding;" (.ref e)) (F_P : Fld Z h0 o "com/example/plumbline/plumbline/BaseEncoding$Reading" "pending" "I" (.int P)) (F_hd : Fld Z h0 o "com/example/plumbline/plumbline/BaseEncoding$Reading" "held" "I" (.int hd)) (F_by : Fld Z h0 o "com/example/plumbline/plumbline/BaseEncoding$Reading" "bytes" "[B" .null) (F_cnt : Fld Z h0 o "com/example/plumbline/plumbline/BaseEncoding$Reading" "count" "I" (.int cnt)) (E_q : Exa Z h0 q0 "java/lang/String") (F_c : Fld Z h0 q0 "java/lang/String" "coder" "B" (.int (0 : Int32))) (F_v : Fld Z h0 q0 "java/lang/String" "value" "[B" (.ref bb)) (A_b : Arv Z h0 bb bk .byte (1 : Int32) [(.int bv)] (.int (0 : Int32))) (S_CS : Sta Z h0 "java/lang/String" "COMPACT_STRINGS" "Z" (.int cs)) (S_SF : Sta Z h0 "jdk/internal/util/Preconditions" "SIOOBE_FORMATTER" "Ljava/util/function/BiFunction;" sv) (F_b : Fld Z h0 e "com/example/plumbline/plumbline/BaseEncoding" "bits" "I" (.int b)) (E_e : Exa Z h0 e "com/example/plumbline/plumbline/BaseEncoding") (F_t : Fld Z h0 e "com/example/plumbline/plumbline/BaseEncoding" "values" "[I" (.ref t)) (T_t : Tab Z h0 t k) (hcs : ¬ cs = (0 : Int32)) (hsv : sv.isRef = true) (hch : (f11 q0 cs bb bk bv sv) = c) (hc0 : ¬ c < (0 : Int32)) (hv : (f18 k c) < (0 : Int32)) (ne_q0_o : q0 ≠ o) (ne_bb_o : bb ≠ o) (ne_e_o : e ≠ o) (ne_t_o : t ≠ o) :
    Con l Z ({ frames := 4, cells := 0, slots := 0, locals := 53 } : Room) (⟨"com/example/plumbline/plumbline/BaseEncoding$Reading", "append", "(Ljava/lang/CharSequence;)V"⟩ : MethodName) prog_5_method_2_code 5 none n0 #[(.ref o), (.ref q0)] h0 (Q8xn Z o q0 cs bb bk bv sv c P hd cnt e b k t h0) := by
  refine OwnW.Con.of (by first | decide +kernel | exact plainFor_of_name (by simp [plainName, overriddenIn])) (fun m => ef8xn m o q0) ?_
  show GoB8xn l Z n0 (Q8xn Z o q0 cs bb bk bv sv c P hd cnt e b k t h0) h0 0 0 0 #[.val (.ref o), .val (.ref q0), .unset, .unset, .unset] []
  refine OwnW.iconst (pc' := 1) (v := (0 : Int32)) d8_0 rfl rfl ?_
  refine OwnW.istoreN (pc' := 2) (L' := #[.val (.ref o), .val (.ref q0), .val (.int (0 : Int32)), .unset, .unset]) d8_1 rfl rfl ?_
  refine OwnW.iloadN (pc' := 3) d8_2 rfl rfl ?_
  refine OwnW.aloadN (pc' := 4) d8_3 rfl (rfl) rfl ?_
  refine OwnW.callVF0 (a0 := a0) (pc' := 9) (W := 1) (k' := 0) (n' := 0) (argsL := []) (rest := [(.int (0 : Int32))]) (St' := [(.int (f9 q0 cs bb bk bv)), (.int (0 : Int32))]) d8_4 (hw _ (List.mem_of_getElem? (i := 53) rfl)) (hw _ (List.mem_of_getElem? (i := 54) rfl)) (hw _ (List.mem_of_getElem? (i := 55) rfl)) (hw _ (List.mem_of_getElem? (i := 56) rfl)) (hw _ (List.mem_of_getElem? (i := 57) rfl)) (hw _ (List.mem_of_getElem? (i := 58) rfl)) (hw _ (List.mem_of_getElem? (i := 59) rfl)) (hw _ (List.mem_of_getElem? (i := 60) rfl)) (hw _ (List.mem_of_getElem? (i := 26) rfl)) (hw _ (List.mem_of_getElem? (i := 61) rfl)) (by decide) E_q (rm9 l Z a0 hw q0 cs bb bk bv h0 n0 E_q S_CS F_c F_v A_b hcs) (by decide) (by decide) rfl rfl (by decide) (by decide) rfl pd_2829I rfl rfl rfl (Nat.le_of_ble_eq_true rfl) rfl rfl ?_
  rw [show (f9 q0 cs bb bk bv) = (1 : Int32) from rfl]
  show GoB8xn l Z n0 (Q8xn Z o q0 cs bb bk bv sv c P hd cnt e b k t h0) h0 0 0 9 #[.val (.ref o), .val (.ref q0), .val (.int (0 : Int32)), .unset, .unset] [(.int (1 : Int32)), (.int (0 : Int32))]
  refine OwnW.icmpN (pc' := 12) d8_9 (tlt (by decide)).2.1 rfl ?_
  refine OwnW.aloadN (pc' := 13) d8_12 rfl (rfl) rfl ?_
  refine OwnW.getF (a0 := a0) (pc' := 16) d8_13 (host := "") (Or.inl (hw _ (List.mem_of_getElem? (i := 18) rfl))) Via.refl F_al rfl ?_
  refine OwnW.ifcN (pc' := 19) d8_16 ((if0 _ _).trans (feq (by decide)).1) rfl ?_
  refine OwnW.aloadN (pc' := 20) d8_19 rfl (rfl) rfl ?_
  refine OwnW.iloadN (pc' := 21) d8_20 rfl rfl ?_
  refine OwnW.callVF0 (a0 := a0) (pc' := 26) (W := 0) (k' := 0) (n' := 0) (argsL := [(.int (0 : Int32))]) (rest := []) (St' := [(.int (f11 q0 cs bb bk bv sv))]) d8_21 (hw _ (List.mem_of_getElem? (i := 67) rfl)) (hw _ (List.mem_of_getElem? (i := 68) rfl)) (hw _ (List.mem_of_getElem? (i := 69) rfl)) (hw _ (List.mem_of_getElem? (i := 70) rfl)) (hw _ (List.mem_of_getElem? (i := 71) rfl)) (hw _ (List.mem_of_getElem? (i := 72) rfl)) (hw _ (List.mem_of_getElem? (i := 73) rfl)) (hw _ (List.mem_of_getElem? (i := 60) rfl)) (hw _ (List.mem_of_getElem? (i := 26) rfl)) (hw _ (List.mem_of_getElem? (i := 74) rfl)) (by decide) E_q (rm11 l Z a0 hw q0 cs bb bk bv sv h0 n0 E_q S_CS S_SF F_c F_v A_b hcs hsv) (by decide) (by decide) rfl rfl (by decide) (by decide) rfl pd_28I29C rfl rfl rfl (Nat.le_of_ble_eq_true rfl) rfl rfl ?_
  rw [show (f11 q0 cs bb bk bv sv) = c from hch]
  show GoB8xn l Z n0 (Q8xn Z o q0 cs bb bk bv sv c P hd cnt e b k t h0) h0 0 0 26 #[.val (.ref o), .val (.ref q0), .val (.int (0 : Int32)), .unset, .unset] [(.int c)]
  refine OwnW.istoreN (pc' := 27) (L' := #[.val (.ref o), .val (.ref q0), .val (.int (0 : Int32)), .val (.int c), .unset]) d8_26 rfl rfl ?_
  refine OwnW.iloadN (pc' := 28) d8_27 rfl rfl ?_
  refine OwnW.sipush (pc' := 31) (v := (128 : Int32)) d8_28 rfl rfl ?_
  suffices J31_47 : ∀ (va : Int32), va = (if c < (128 : Int32) then (f18 k c) else (-1 : Int32)) → GoB8xn l Z n0 (Q8xn Z o q0 cs bb bk bv sv c P hd cnt e b k t h0) h0 0 0 47 #[.val (.ref o), .val (.ref q0), .val (.int (0 : Int32)), .val (.int c), .unset] [(.int va)] by
    by_cases hc31 : c < (128 : Int32)
    ·
      refine OwnW.icmpN (pc' := 34) d8_31 (tlt hc31).2.1 rfl ?_
      refine OwnW.aloadN (pc' := 35) d8_34 rfl (rfl) rfl ?_
      refine OwnW.getF (a0 := a0) (pc' := 38) d8_35 (host := "") (Or.inl (hw _ (List.mem_of_getElem? (i := 20) rfl))) Via.refl F_enc rfl ?_
      refine OwnW.getF (a0 := a0) (pc' := 41) d8_38 (Or.inr (hw _ (List.mem_of_getElem? (i := 91) rfl))) Via.refl F_t rfl ?_
      refine OwnW.iloadN (pc' := 42) d8_41 rfl rfl ?_
      obtain ⟨clt, At_, St_, Vt⟩ := id T_t
      refine OwnW.iaload (pc' := 43) (v := .int (f18 k c)) d8_42 At_ (own_in St_ hc0 hc31) (Vt c hc0 hc31) rfl ?_
      show GoB8xn l Z n0 (Q8xn Z o q0 cs bb bk bv sv c P hd cnt e b k t h0) h0 0 0 43 #[.val (.ref o), .val (.ref q0), .val (.int (0 : Int32)), .val (.int c), .unset] [(.int (f18 k c))]
      refine OwnW.goto (pc' := 47) d8_43 (by decide) (by decide) ?_
      exact J31_47 _ (by first | simp only [if_pos hc31] | rfl)
    ·
      refine OwnW.icmpY (pc' := 46) d8_31 (flt hc31).2.1 (by decide) (by decide) ?_
      refine OwnW.iconst (pc' := 47) (v := (-1 : Int32)) d8_46 rfl rfl ?_
      exact J31_47 _ (by first | simp only [if_neg hc31] | rfl)
  intro va hva
  rw [show va = (f18 k c) from (own_va hva)]
  show GoB8xn l Z n0 (Q8xn Z o q0 cs bb bk bv sv c P hd cnt e b k t h0) h0 0 0 47 #[.val (.ref o), .val (.ref q0), .val (.int (0 : Int32)), .val (.int c), .unset] [(.int (f18 k c))]
  refine OwnW.istore (pc' := 49) (L' := #[.val (.ref o), .val (.ref q0), .val (.int (0 : Int32)), .val (.int c), .val (.int (f18 k c))]) d8_47 rfl rfl ?_
  refine OwnW.aloadN (pc' := 50) d8_49 rfl (rfl) rfl ?_
  refine OwnW.iload (pc' := 52) d8_50 rfl rfl ?_
  refine OwnW.ifcY (pc' := 59) d8_52 ((if0 _ _).trans (tlt hv).1) (by decide) (by decide) ?_
  refine OwnW.iconst (pc' := 60) (v := (0 : Int32)) d8_59 rfl rfl ?_
  refine OwnW.putFN (a0 := a0) (pc' := 63) (v' := (.int (0 : Int32))) d8_60 (hw _ (List.mem_of_getElem? (i := 18) rfl)) Via.refl F_al E_o (Or.inl (hw _ (List.mem_of_getElem? (i := 19) rfl))) (hw _ (List.mem_of_getElem? (i := 10) rfl)) (ty := .boolean) (by decide) rfl (by decide) g_o rfl ?_
  intro h1 W1
  have sz2 : n0 ≤ h1.size := (by rw [W1.size]; exact Z0)
  have F3 := F_al.same W1
  refine OwnW.aloadN (pc' := 64) d8_63 rfl (rfl) rfl ?_
  refine OwnW.getF (a0 := a0) (pc' := 67) d8_64 (host := "") (Or.inl (hw _ (List.mem_of_getElem? (i := 18) rfl))) Via.refl F3 rfl ?_
  refine OwnW.ifcY (pc' := 76) d8_67 ((if0 _ _).trans (teq (by decide)).1) (by decide) (by decide) ?_
  refine OwnW.iinc (pc' := 79) (L' := #[.val (.ref o), .val (.ref q0), .val (.int (1 : Int32)), .val (.int c), .val (.int (f18 k c))]) (d := (1 : Int32)) d8_76 rfl rfl rfl rfl ?_
  refine OwnW.goto (pc' := 2) d8_79 (by decide) (by decide) ?_
  refine OwnW.iloadN (pc' := 3) d8_2 rfl rfl ?_
  refine OwnW.aloadN (pc' := 4) d8_3 rfl (rfl) rfl ?_
  have F4 := (E_q.wr W1)
  have F5 := (S_CS.wr W1)
  have F6 := (F_c.other W1 (Or.inl ne_q0_o))
  have F7 := (F_v.other W1 (Or.inl ne_q0_o))
  have F8 := (A_b.other W1 ne_bb_o)
  refine OwnW.callVF0 (a0 := a0) (pc' := 9) (W := 1) (k' := 0) (n' := 0) (argsL := []) (rest := [(.int (1 : Int32))]) (St' := [(.int (f9 q0 cs bb bk bv)), (.int (1 : Int32))]) d8_4 (hw _ (List.mem_of_getElem? (i := 53) rfl)) (hw _ (List.mem_of_getElem? (i := 54) rfl)) (hw _ (List.mem_of_getElem? (i := 55) rfl)) (hw _ (List.mem_of_getElem? (i := 56) rfl)) (hw _ (List.mem_of_getElem? (i := 57) rfl)) (hw _ (List.mem_of_getElem? (i := 58) rfl)) (hw _ (List.mem_of_getElem? (i := 59) rfl)) (hw _ (List.mem_of_getElem? (i := 60) rfl)) (hw _ (List.mem_of_getElem? (i := 26) rfl)) (hw _ (List.mem_of_getElem? (i := 61) rfl)) (by decide) F4 (rm9 l Z a0 hw q0 cs bb bk bv h1 n0 F4 F5 F6 F7 F8 hcs) (by decide) (by decide) rfl rfl (by decide) (by decide) rfl pd_2829I rfl rfl rfl (Nat.le_of_ble_eq_true rfl) rfl rfl ?_
  rw [show (f9 q0 cs bb bk bv) = (1 : Int32) from rfl]
  show GoB8xn l Z n0 (Q8xn Z o q0 cs bb bk bv sv c P hd cnt e b k t h0) h1 0 0 9 #[.val (.ref o), .val (.ref q0), .val (.int (1 : Int32)), .val (.int c), .val (.int (f18 k c))] [(.int (1 : Int32)), (.int (1 : Int32))]
  refine OwnW.icmpY (pc' := 82) d8_9 (flt (by decide)).2.1 (by decide) (by decide) ?_
  exact OwnW.ret0 d8_82 rfl (by decide) (by decide) (⟨rfl, ((Keep.refl h0 [o]).wr W1 (Or.inl (List.mem_of_getElem? (i := 0) rfl))), (E_o.wr W1), F3⟩)
def Q8xa (Z : State) (o : Addr) (q0 : Addr) (cs : Int32) (bb : Addr) (bk : ClassId) (bv : Int32) (sv : Value) (c : Int32) (P : Int32) (hd : Int32) (cnt : Int32) (e : Addr) (b : Int32) (k : Int32) (t : Addr) (ya : Addr) (h0 : Heap) (v : Option Value) (h : Heap) : Prop := v = none ∧ Keep h0 h [o] ∧ Exa Z h o "com/example/plumbline/plumbline/BaseEncoding$Reading" ∧ Fld Z h o "com/example/plumbline/plumbline/BaseEncoding$Reading" "inAlphabet" "Z" (.int (0 : Int32))
abbrev GoB8xa (l : Launch) (Z : State) (n0 : Nat) (Q : Option Value → Heap → Prop) := Go l Z ({ frames := 4, cells := 0, slots := 0, locals := 53 } : Room) (⟨"com/example/plumbline/plumbline/BaseEncoding$Reading", "append", "(Ljava/lang/CharSequence;)V"⟩ : MethodName) prog_5_method_2_code 5 none n0 Q
theorem ef8xa (m : MethodId) (o : Addr) (q0 : Addr) : entryFrame m #[(.ref o), (.ref q0)] 5 = mkF m 0 #[.val (.ref o), .val (.ref q0), .unset, .unset, .unset] [] := by first | (simp [entryFrame, mkF, argsToLocals, Value.category]; done) | rfl
set_option maxRecDepth 65536 in
set_option maxHeartbeats 40000000 in
theorem rm8xa (l : Launch) (Z : State) (a0 : Array Value) (hw : ∀ d ∈ tables_1, d.before a0 Z = true) (o : Addr) (q0 : Addr) (cs : Int32) (bb : Addr) (bk : ClassId) (bv : Int32) (sv : Value) (c : Int32) (P : Int32) (hd : Int32) (cnt : Int32) (e : Addr) (b : Int32) (k : Int32) (t : Addr) (ya : Addr) (h0 : Heap) (n0 : Nat) (Z0 : n0 ≤ h0.size) (g_o : n0 ≤ o) (E_o : Exa Z h0 o "com/example/plumbline/plumbline/BaseEncoding$Reading") (F_al : Fld Z h0 o "com/example/plumbline/plumbline/BaseEncoding$Reading" "inAlphabet" "Z" (.int (1 : Int32))) (F_enc : Fld Z h0 o "com/example/plumbline/plumbline/BaseEncoding$Reading" "encoding" "Lcom/example/plumbline/plumbline/BaseEncoding;" (.ref e)) (F_P : Fld Z h0 o "com/example/plumbline/plumbline/BaseEncoding$Reading" "pending" "I" (.int P)) (F_hd : Fld Z h0 o "com/example/plumbline/plumbline/BaseEncoding$Reading" "held" "I" (.int hd)) (F_by : Fld Z h0 o "com/example/plumbline/plumbline/BaseEncoding$Reading" "bytes" "[B" (.ref ya)) (F_cnt : Fld Z h0 o "com/example/plumbline/plumbline/BaseEncoding$Reading" "count" "I" (.int cnt)) (E_q : Exa Z h0 q0 "java/lang/String") (F_c : Fld Z h0 q0 "java/lang/String" "coder" "B" (.int (0 : Int32))) (F_v : Fld Z h0 q0 "java/lang/String" "value" "[B" (.ref bb)) (A_b : Arv Z h0 bb bk .byte (1 : Int32) [(.int bv)] (.int (0 : Int32))) (S_CS : Sta Z h0 "java/lang/String" "COMPACT_STRINGS" "Z" (.int cs)) (S_SF : Sta Z h0 "jdk/internal/util/Preconditions" "SIOOBE_FORMATTER" "Ljava/util/function/BiFunction;" sv) (F_b : Fld Z h0 e "com/example/plumbline/plumbline/BaseEncoding" "bits" "I" (.int b)) (E_e : Exa Z h0 e "com/example/plumbline/plumbline/BaseEncoding") (F_t : Fld Z h0 e "com/example/plumbline/plumbline/BaseEncoding" "values" "[I" (.ref t)) (T_t : Tab Z h0 t k) (hcs : ¬ cs = (0 : Int32)) (hsv : sv.isRef = true) (hch : (f11 q0 cs bb bk bv sv) = c) (hc0 : ¬ c < (0 : Int32)) (hv : (f18 k c) < (0 : Int32)) (ne_q0_o : q0 ≠ o) (ne_bb_o : bb ≠ o) (ne_e_o : e ≠ o) (ne_t_o : t ≠ o) (ne_ya_o : ya ≠ o) (ne_q0_ya : q0 ≠ ya) (ne_bb_ya : bb ≠ ya) (ne_e_ya : e ≠ ya) (ne_t_ya : t ≠ ya) :
    Con l Z ({ frames := 4, cells := 0, slots := 0, locals := 53 } : Room) (⟨"com/example/plumbline/plumbline/BaseEncoding$Reading", "append", "(Ljava/lang/CharSequence;)V"⟩ : MethodName) prog_5_method_2_code 5 none n0 #[(.ref o), (.ref q0)] h0 (Q8xa Z o q0 cs bb bk bv sv c P hd cnt e b k t ya h0) := by
  refine OwnW.Con.of (by first | decide +kernel | exact plainFor_of_name (by simp [plainName, overriddenIn])) (fun m => ef8xa m o q0) ?_
  show GoB8xa l Z n0 (Q8xa Z o q0 cs bb bk bv sv c P hd cnt e b k t ya h0) h0 0 0 0 #[.val (.ref o), .val (.ref q0), .unset, .unset, .unset] []
  refine OwnW.iconst (pc' := 1) (v := (0 : Int32)) d8_0 rfl rfl ?_
  refine OwnW.istoreN (pc' := 2) (L' := #[.val (.ref o), .val (.ref q0), .val (.int (0 : Int32)), .unset, .unset]) d8_1 rfl rfl ?_
  refine OwnW.iloadN (pc' := 3) d8_2 rfl rfl ?_
  refine OwnW.aloadN (pc' := 4) d8_3 rfl (rfl) rfl ?_
  refine OwnW.callVF0 (a0 := a0) (pc' := 9) (W := 1) (k' := 0) (n' := 0) (argsL := []) (rest := [(.int (0 : Int32))]) (St' := [(.int (f9 q0 cs bb bk bv)), (.int (0 : Int32))]) d8_4 (hw _ (List.mem_of_getElem? (i := 53) rfl)) (hw _ (List.mem_of_getElem? (i := 54) rfl)) (hw _ (List.mem_of_getElem? (i := 55) rfl)) (hw _ (List.mem_of_getElem? (i := 56) rfl)) (hw _ (List.mem_of_getElem? (i := 57) rfl)) (hw _ (List.mem_of_getElem? (i := 58) rfl)) (hw _ (List.mem_of_getElem? (i := 59) rfl)) (hw _ (List.mem_of_getElem? (i := 60) rfl)) (hw _ (List.mem_of_getElem? (i := 26) rfl)) (hw _ (List.mem_of_getElem? (i := 61) rfl)) (by decide) E_q (rm9 l Z a0 hw q0 cs bb bk bv h0 n0 E_q S_CS F_c F_v A_b hcs) (by decide) (by decide) rfl rfl (by decide) (by decide) rfl pd_2829I rfl rfl rfl (Nat.le_of_ble_eq_true rfl) rfl rfl ?_
  rw [show (f9 q0 cs bb bk bv) = (1 : Int32) from rfl]
  show GoB8xa l Z n0 (Q8xa Z o q0 cs bb bk bv sv c P hd cnt e b k t ya h0) h0 0 0 9 #[.val (.ref o), .val (.ref q0), .val (.int (0 : Int32)), .unset, .unset] [(.int (1 : Int32)), (.int (0 : Int32))]
  refine OwnW.icmpN (pc' := 12) d8_9 (tlt (by decide)).2.1 rfl ?_
  refine OwnW.aloadN (pc' := 13) d8_12 rfl (rfl) rfl ?_
  refine OwnW.getF (a0 := a0) (pc' := 16) d8_13 (host := "") (Or.inl (hw _ (List.mem_of_getElem? (i := 18) rfl))) Via.refl F_al rfl ?_
  refine OwnW.ifcN (pc' := 19) d8_16 ((if0 _ _).trans (feq (by decide)).1) rfl ?_
  refine OwnW.aloadN (pc' := 20) d8_19 rfl (rfl) rfl ?_
  refine OwnW.iloadN (pc' := 21) d8_20 rfl rfl ?_
  refine OwnW.callVF0 (a0 := a0) (pc' := 26) (W := 0) (k' := 0) (n' := 0) (argsL := [(.int (0 : Int32))]) (rest := []) (St' := [(.int (f11 q0 cs bb bk bv sv))]) d8_21 (hw _ (List.mem_of_getElem? (i := 67) rfl)) (hw _ (List.mem_of_getElem? (i := 68) rfl)) (hw _ (List.mem_of_getElem? (i := 69) rfl)) (hw _ (List.mem_of_getElem? (i := 70) rfl)) (hw _ (List.mem_of_getElem? (i := 71) rfl)) (hw _ (List.mem_of_getElem? (i := 72) rfl)) (hw _ (List.mem_of_getElem? (i := 73) rfl)) (hw _ (List.mem_of_getElem? (i := 60) rfl)) (hw _ (List.mem_of_getElem? (i := 26) rfl)) (hw _ (List.mem_of_getElem? (i := 74) rfl)) (by decide) E_q (rm11 l Z a0 hw q0 cs bb bk bv sv h0 n0 E_q S_CS S_SF F_c F_v A_b hcs hsv) (by decide) (by decide) rfl rfl (by decide) (by decide) rfl pd_28I29C rfl rfl rfl (Nat.le_of_ble_eq_true rfl) rfl rfl ?_
  rw [show (f11 q0 cs bb bk bv sv) = c from hch]
  show GoB8xa l Z n0 (Q8xa Z o q0 cs bb bk bv sv c P hd cnt e b k t ya h0) h0 0 0 26 #[.val (.ref o), .val (.ref q0), .val (.int (0 : Int32)), .unset, .unset] [(.int c)]
  refine OwnW.istoreN (pc' := 27) (L' := #[.val (.ref o), .val (.ref q0), .val (.int (0 : Int32)), .val (.int c), .unset]) d8_26 rfl rfl ?_
  refine OwnW.iloadN (pc' := 28) d8_27 rfl rfl ?_
  refine OwnW.sipush (pc' := 31) (v := (128 : Int32)) d8_28 rfl rfl ?_
  suffices J31_47 : ∀ (va : Int32), va = (if c < (128 : Int32) then (f18 k c) else (-1 : Int32)) → GoB8xa l Z n0 (Q8xa Z o q0 cs bb bk bv sv c P hd cnt e b k t ya h0) h0 0 0 47 #[.val (.ref o), .val (.ref q0), .val (.int (0 : Int32)), .val (.int c), .unset] [(.int va)] by
    by_cases hc31 : c < (128 : Int32)
    ·
      refine OwnW.icmpN (pc' := 34) d8_31 (tlt hc31).2.1 rfl ?_
      refine OwnW.aloadN (pc' := 35) d8_34 rfl (rfl) rfl ?_
      refine OwnW.getF (a0 := a0) (pc' := 38) d8_35 (host := "") (Or.inl (hw _ (List.mem_of_getElem? (i := 20) rfl))) Via.refl F_enc rfl ?_
      refine OwnW.getF (a0 := a0) (pc' := 41) d8_38 (Or.inr (hw _ (List.mem_of_getElem? (i := 91) rfl))) Via.refl F_t rfl ?_
      refine OwnW.iloadN (pc' := 42) d8_41 rfl rfl ?_
      obtain ⟨clt, At_, St_, Vt⟩ := id T_t
      refine OwnW.iaload (pc' := 43) (v := .int (f18 k c)) d8_42 At_ (own_in St_ hc0 hc31) (Vt c hc0 hc31) rfl ?_
      show GoB8xa l Z n0 (Q8xa Z o q0 cs bb bk bv sv c P hd cnt e b k t ya h0) h0 0 0 43 #[.val (.ref o), .val (.ref q0), .val (.int (0 : Int32)), .val (.int c), .unset] [(.int (f18 k c))]
      refine OwnW.goto (pc' := 47) d8_43 (by decide) (by decide) ?_
      exact J31_47 _ (by first | simp only [if_pos hc31] | rfl)
    ·
      refine OwnW.icmpY (pc' := 46) d8_31 (flt hc31).2.1 (by decide) (by decide) ?_
      refine OwnW.iconst (pc' := 47) (v := (-1 : Int32)) d8_46 rfl rfl ?_
      exact J31_47 _ (by first | simp only [if_neg hc31] | rfl)
  intro va hva
  rw [show va = (f18 k c) from (own_va hva)]
  show GoB8xa l Z n0 (Q8xa Z o q0 cs bb bk bv sv c P hd cnt e b k t ya h0) h0 0 0 47 #[.val (.ref o), .val (.ref q0), .val (.int (0 : Int32)), .val (.int c), .unset] [(.int (f18 k c))]
  refine OwnW.istore (pc' := 49) (L' := #[.val (.ref o), .val (.ref q0), .val (.int (0 : Int32)), .val (.int c), .val (.int (f18 k c))]) d8_47 rfl rfl ?_
  refine OwnW.aloadN (pc' := 50) d8_49 rfl (rfl) rfl ?_
  refine OwnW.iload (pc' := 52) d8_50 rfl rfl ?_
  refine OwnW.ifcY (pc' := 59) d8_52 ((if0 _ _).trans (tlt hv).1) (by decide) (by decide) ?_
  refine OwnW.iconst (pc' := 60) (v := (0 : Int32)) d8_59 rfl rfl ?_
  refine OwnW.putFN (a0 := a0) (pc' := 63) (v' := (.int (0 : Int32))) d8_60 (hw _ (List.mem_of_getElem? (i := 18) rfl)) Via.refl F_al E_o (Or.inl (hw _ (List.mem_of_getElem? (i := 19) rfl))) (hw _ (List.mem_of_getElem? (i := 10) rfl)) (ty := .boolean) (by decide) rfl (by decide) g_o rfl ?_
  intro h1 W1
  have sz2 : n0 ≤ h1.size := (by rw [W1.size]; exact Z0)
  have F3 := F_al.same W1
  refine OwnW.aloadN (pc' := 64) d8_63 rfl (rfl) rfl ?_
  refine OwnW.getF (a0 := a0) (pc' := 67) d8_64 (host := "") (Or.inl (hw _ (List.mem_of_getElem? (i := 18) rfl))) Via.refl F3 rfl ?_
  refine OwnW.ifcY (pc' := 76) d8_67 ((if0 _ _).trans (teq (by decide)).1) (by decide) (by decide) ?_
  refine OwnW.iinc (pc' := 79) (L' := #[.val (.ref o), .val (.ref q0), .val (.int (1 : Int32)), .val (.int c), .val (.int (f18 k c))]) (d := (1 : Int32)) d8_76 rfl rfl rfl rfl ?_
  refine OwnW.goto (pc' := 2) d8_79 (by decide) (by decide) ?_
  refine OwnW.iloadN (pc' := 3) d8_2 rfl rfl ?_
  refine OwnW.aloadN (pc' := 4) d8_3 rfl (rfl) rfl ?_
  have F4 := (E_q.wr W1)
  have F5 := (S_CS.wr W1)
  have F6 := (F_c.other W1 (Or.inl ne_q0_o))
  have F7 := (F_v.other W1 (Or.inl ne_q0_o))
  have F8 := (A_b.other W1 ne_bb_o)
  refine OwnW.callVF0 (a0 := a0) (pc' := 9) (W := 1) (k' := 0) (n' := 0) (argsL := []) (rest := [(.int (1 : Int32))]) (St' := [(.int (f9 q0 cs bb bk bv)), (.int (1 : Int32))]) d8_4 (hw _ (List.mem_of_getElem? (i := 53) rfl)) (hw _ (List.mem_of_getElem? (i := 54) rfl)) (hw _ (List.mem_of_getElem? (i := 55) rfl)) (hw _ (List.mem_of_getElem? (i := 56) rfl)) (hw _ (List.mem_of_getElem? (i := 57) rfl)) (hw _ (List.mem_of_getElem? (i := 58) rfl)) (hw _ (List.mem_of_getElem? (i := 59) rfl)) (hw _ (List.mem_of_getElem? (i := 60) rfl)) (hw _ (List.mem_of_getElem? (i := 26) rfl)) (hw _ (List.mem_of_getElem? (i := 61) rfl)) (by decide) F4 (rm9 l Z a0 hw q0 cs bb bk bv h1 n0 F4 F5 F6 F7 F8 hcs) (by decide) (by decide) rfl rfl (by decide) (by decide) rfl pd_2829I rfl rfl rfl (Nat.le_of_ble_eq_true rfl) rfl rfl ?_
  rw [show (f9 q0 cs bb bk bv) = (1 : Int32) from rfl]
  show GoB8xa l Z n0 (Q8xa Z o q0 cs bb bk bv sv c P hd cnt e b k t ya h0) h1 0 0 9 #[.val (.ref o), .val (.ref q0), .val (.int (1 : Int32)), .val (.int c), .val (.int (f18 k c))] [(.int (1 : Int32)), (.int (1 : Int32))]
  refine OwnW.icmpY (pc' := 82) d8_9 (flt (by decide)).2.1 (by decide) (by decide) ?_
  exact OwnW.ret0 d8_82 rfl (by decide) (by decide) (⟨rfl, ((Keep.refl h0 [o]).wr W1 (Or.inl (List.mem_of_getElem? (i := 0) rfl))), (E_o.wr W1), F3⟩)
def Q8sn (Z : State) (o : Addr) (q0 : Addr) (cs : Int32) (bb : Addr) (bk : ClassId) (bv : Int32) (sv : Value) (c : Int32) (P : Int32) (hd : Int32) (cnt : Int32) (e : Addr) (b : Int32) (k : Int32) (t : Addr) (h0 : Heap) (v : Option Value) (h : Heap) : Prop := v = none ∧ Keep h0 h [o] ∧ Exa Z h o "com/example/plumbline/plumbline/BaseEncoding$Reading" ∧ Fld Z h o "com/example/plumbline/plumbline/BaseEncoding$Reading" "inAlphabet" "Z" (.int (1 : Int32)) ∧ Fld Z h o "com/example/plumbline/plumbline/BaseEncoding$Reading" "encoding" "Lcom/example/plumbline/plumbline/BaseEncoding;" (.ref e) ∧ Fld Z h o "com/example/plumbline/plumbline/BaseEncoding$Reading" "pending" "I" (.int ((P <<< (b &&& 31)) ||| (f18 k c))) ∧ Fld Z h o "com/example/plumbline/plumbline/BaseEncoding$Reading" "held" "I" (.int (hd + b)) ∧ Fld Z h o "com/example/plumbline/plumbline/BaseEncoding$Reading" "bytes" "[B" .null ∧ Fld Z h o "com/example/plumbline/plumbline/BaseEncoding$Reading" "count" "I" (.int cnt)
abbrev GoB8sn (l : Launch) (Z : State) (n0 : Nat) (Q : Option Value → Heap → Prop) := Go l Z ({ frames := 4, cells := 0, slots := 0, locals := 53 } : Room) (⟨"com/example/plumbline/plumbline/BaseEncoding$Reading", "append", "(Ljava/lang/CharSequence;)V"⟩ : MethodName) prog_5_method_2_code 5 none n0 Q
theorem ef8sn (m : MethodId) (o : Addr) (q0 : Addr) : entryFrame m #[(.ref o), (.ref q0)] 5 = mkF m 0 #[.val (.ref o), .val (.ref q0), .unset, .unset, .unset] [] := by first | (simp [entryFrame, mkF, argsToLocals, Value.category]; done) | rfl
set_option maxRecDepth 65536 in
set_option maxHeartbeats 40000000 in
theorem rm8sn (l : Launch) (Z : State) (a0 : Array Value) (hw : ∀ d ∈ tables_1, d.before a0 Z = true) (o : Addr) (q0 : Addr) (cs : Int32) (bb : Addr) (bk : ClassId) (bv : Int32) (sv : Value) (c : Int32) (P : Int32) (hd : Int32) (cnt : Int32) (e : Addr) (b : Int32) (k : Int32) (t : Addr) (h0 : Heap) (n0 : Nat) (Z0 : n0 ≤ h0.size) (g_o : n0 ≤ o) (E_o : Exa Z h0 o "com/example/plumbline/plumbline/BaseEncoding$Reading") (F_al : Fld Z h0 o "com/example/plumbline/plumbline/BaseEncoding$Reading" "inAlphabet" "Z" (.int (1 : Int32))) (F_enc : Fld Z h0 o "com/example/plumbline/plumbline/BaseEncoding$Reading" "encoding" "Lcom/example/plumbline/plumbline/BaseEncoding;" (.ref e)) (F_P : Fld Z h0 o "com/example/plumbline/plumbline/BaseEncoding$Reading" "pending" "I" (.int P)) (F_hd : Fld Z h0 o "com/example/plumbline/plumbline/BaseEncoding$Reading" "held" "I" (.int hd)) (F_by : Fld Z h0 o "com/example/plumbline/plumbline/BaseEncoding$Reading" "bytes" "[B" .null) (F_cnt : Fld Z h0 o "com/example/plumbline/plumbline/BaseEncoding$Reading" "count" "I" (.int cnt)) (E_q : Exa Z h0 q0 "java/lang/String") (F_c : Fld Z h0 q0 "java/lang/String" "coder" "B" (.int (0 : Int32))) (F_v : Fld Z h0 q0 "java/lang/String" "value" "[B" (.ref bb)) (A_b : Arv Z h0 bb bk .byte (1 : Int32) [(.int bv)] (.int (0 : Int32))) (S_CS : Sta Z h0 "java/lang/String" "COMPACT_STRINGS" "Z" (.int cs)) (S_SF : Sta Z h0 "jdk/internal/util/Preconditions" "SIOOBE_FORMATTER" "Ljava/util/function/BiFunction;" sv) (F_b : Fld Z h0 e "com/example/plumbline/plumbline/BaseEncoding" "bits" "I" (.int b)) (E_e : Exa Z h0 e "com/example/plumbline/plumbline/BaseEncoding") (F_t : Fld Z h0 e "com/example/plumbline/plumbline/BaseEncoding" "values" "[I" (.ref t)) (T_t : Tab Z h0 t k) (hcs : ¬ cs = (0 : Int32)) (hsv : sv.isRef = true) (hch : (f11 q0 cs bb bk bv sv) = c) (hc0 : ¬ c < (0 : Int32)) (hv : ¬ (f18 k c) < (0 : Int32)) (hlt : (hd + b) < (8 : Int32)) (ne_q0_o : q0 ≠ o) (ne_bb_o : bb ≠ o) (ne_e_o : e ≠ o) (ne_t_o : t ≠ o) :
    Con l Z ({ frames := 4, cells := 0, slots := 0, locals := 53 } : Room) (⟨"com/example/plumbline/plumbline/BaseEncoding$Reading", "append", "(Ljava/lang/CharSequence;)V"⟩ : MethodName) prog_5_method_2_code 5 none n0 #[(.ref o), (.ref q0)] h0 (Q8sn Z o q0 cs bb bk bv sv c P hd cnt e b k t h0) := by
  refine OwnW.Con.of (by first | decide +kernel | exact plainFor_of_name (by simp [plainName, overriddenIn])) (fun m => ef8sn m o q0) ?_
  show GoB8sn l Z n0 (Q8sn Z o q0 cs bb bk bv sv c P hd cnt e b k t h0) h0 0 0 0 #[.val (.ref o), .val (.ref q0), .unset, .unset, .unset] []
  refine OwnW.iconst (pc' := 1) (v := (0 : Int32)) d8_0 rfl rfl ?_
  refine OwnW.istoreN (pc' := 2) (L' := #[.val (.ref o), .val (.ref q0), .val (.int (0 : Int32)), .unset, .unset]) d8_1 rfl rfl ?_
  refine OwnW.iloadN (pc' := 3) d8_2 rfl rfl ?_
  refine OwnW.aloadN (pc' := 4) d8_3 rfl (rfl) rfl ?_
  refine OwnW.callVF0 (a0 := a0) (pc' := 9) (W := 1) (k' := 0) (n' := 0) (argsL := []) (rest := [(.int (0 : Int32))]) (St' := [(.int (f9 q0 cs bb bk bv)), (.int (0 : Int32))]) d8_4 (hw _ (List.mem_of_getElem? (i := 53) rfl)) (hw _ (List.mem_of_getElem? (i := 54) rfl)) (hw _ (List.mem_of_getElem? (i := 55) rfl)) (hw _ (List.mem_of_getElem? (i := 56) rfl)) (hw _ (List.mem_of_getElem? (i := 57) rfl)) (hw _ (List.mem_of_getElem? (i := 58) rfl)) (hw _ (List.mem_of_getElem? (i := 59) rfl)) (hw _ (List.mem_of_getElem? (i := 60) rfl)) (hw _ (List.mem_of_getElem? (i := 26) rfl)) (hw _ (List.mem_of_getElem? (i := 61) rfl)) (by decide) E_q (rm9 l Z a0 hw q0 cs bb bk bv h0 n0 E_q S_CS F_c F_v A_b hcs) (by decide) (by decide) rfl rfl (by decide) (by decide) rfl pd_2829I rfl rfl rfl (Nat.le_of_ble_eq_true rfl) rfl rfl ?_
  rw [show (f9 q0 cs bb bk bv) = (1 : Int32) from rfl]
  show GoB8sn l Z n0 (Q8sn Z o q0 cs bb bk bv sv c P hd cnt e b k t h0) h0 0 0 9 #[.val (.ref o), .val (.ref q0), .val (.int (0 : Int32)), .unset, .unset] [(.int (1 : Int32)), (.int (0 : Int32))]
  refine OwnW.icmpN (pc' := 12) d8_9 (tlt (by decide)).2.1 rfl ?_
  refine OwnW.aloadN (pc' := 13) d8_12 rfl (rfl) rfl ?_
  refine OwnW.getF (a0 := a0) (pc' := 16) d8_13 (host := "") (Or.inl (hw _ (List.mem_of_getElem? (i := 18) rfl))) Via.refl F_al rfl ?_
  refine OwnW.ifcN (pc' := 19) d8_16 ((if0 _ _).trans (feq (by decide)).1) rfl ?_
  refine OwnW.aloadN (pc' := 20) d8_19 rfl (rfl) rfl ?_
  refine OwnW.iloadN (pc' := 21) d8_20 rfl rfl ?_
  refine OwnW.callVF0 (a0 := a0) (pc' := 26) (W := 0) (k' := 0) (n' := 0) (argsL := [(.int (0 : Int32))]) (rest := []) (St' := [(.int (f11 q0 cs bb bk bv sv))]) d8_21 (hw _ (List.mem_of_getElem? (i := 67) rfl)) (hw _ (List.mem_of_getElem? (i := 68) rfl)) (hw _ (List.mem_of_getElem? (i := 69) rfl)) (hw _ (List.mem_of_getElem? (i := 70) rfl)) (hw _ (List.mem_of_getElem? (i := 71) rfl)) (hw _ (List.mem_of_getElem? (i := 72) rfl)) (hw _ (List.mem_of_getElem? (i := 73) rfl)) (hw _ (List.mem_of_getElem? (i := 60) rfl)) (hw _ (List.mem_of_getElem? (i := 26) rfl)) (hw _ (List.mem_of_getElem? (i := 74) rfl)) (by decide) E_q (rm11 l Z a0 hw q0 cs bb bk bv sv h0 n0 E_q S_CS S_SF F_c F_v A_b hcs hsv) (by decide) (by decide) rfl rfl (by decide) (by decide) rfl pd_28I29C rfl rfl rfl (Nat.le_of_ble_eq_true rfl) rfl rfl ?_
  rw [show (f11 q0 cs bb bk bv sv) = c from hch]
  show GoB8sn l Z n0 (Q8sn Z o q0 cs bb bk bv sv c P hd cnt e b k t h0) h0 0 0 26 #[.val (.ref o), .val (.ref q0), .val (.int (0 : Int32)), .unset, .unset] [(.int c)]
  refine OwnW.istoreN (pc' := 27) (L' := #[.val (.ref o), .val (.ref q0), .val (.int (0 : Int32)), .val (.int c), .unset]) d8_26 rfl rfl ?_
  refine OwnW.iloadN (pc' := 28) d8_27 rfl rfl ?_
  refine OwnW.sipush (pc' := 31) (v := (128 : Int32)) d8_28 rfl rfl ?_
  suffices J31_47 : ∀ (va : Int32), va = (if c < (128 : Int32) then (f18 k c) else (-1 : Int32)) → GoB8sn l Z n0 (Q8sn Z o q0 cs bb bk bv sv c P hd cnt e b k t h0) h0 0 0 47 #[.val (.ref o), .val (.ref q0), .val (.int (0 : Int32)), .val (.int c), .unset] [(.int va)] by
    by_cases hc31 : c < (128 : Int32)
    ·
      refine OwnW.icmpN (pc' := 34) d8_31 (tlt hc31).2.1 rfl ?_
      refine OwnW.aloadN (pc' := 35) d8_34 rfl (rfl) rfl ?_
      refine OwnW.getF (a0 := a0) (pc' := 38) d8_35 (host := "") (Or.inl (hw _ (List.mem_of_getElem? (i := 20) rfl))) Via.refl F_enc rfl ?_
      refine OwnW.getF (a0 := a0) (pc' := 41) d8_38 (Or.inr (hw _ (List.mem_of_getElem? (i := 91) rfl))) Via.refl F_t rfl ?_
      refine OwnW.iloadN (pc' := 42) d8_41 rfl rfl ?_
      obtain ⟨clt, At_, St_, Vt⟩ := id T_t
      refine OwnW.iaload (pc' := 43) (v := .int (f18 k c)) d8_42 At_ (own_in St_ hc0 hc31) (Vt c hc0 hc31) rfl ?_
      show GoB8sn l Z n0 (Q8sn Z o q0 cs bb bk bv sv c P hd cnt e b k t h0) h0 0 0 43 #[.val (.ref o), .val (.ref q0), .val (.int (0 : Int32)), .val (.int c), .unset] [(.int (f18 k c))]
      refine OwnW.goto (pc' := 47) d8_43 (by decide) (by decide) ?_
      exact J31_47 _ (by first | simp only [if_pos hc31] | rfl)
    ·
      refine OwnW.icmpY (pc' := 46) d8_31 (flt hc31).2.1 (by decide) (by decide) ?_
      refine OwnW.iconst (pc' := 47) (v := (-1 : Int32)) d8_46 rfl rfl ?_
      exact J31_47 _ (by first | simp only [if_neg hc31] | rfl)
  intro va hva
  rw [show va = (f18 k c) from (own_va hva)]
  show GoB8sn l Z n0 (Q8sn Z o q0 cs bb bk bv sv c P hd cnt e b k t h0) h0 0 0 47 #[.val (.ref o), .val (.ref q0), .val (.int (0 : Int32)), .val (.int c), .unset] [(.int (f18 k c))]
  refine OwnW.istore (pc' := 49) (L' := #[.val (.ref o), .val (.ref q0), .val (.int (0 : Int32)), .val (.int c), .val (.int (f18 k c))]) d8_47 rfl rfl ?_
  refine OwnW.aloadN (pc' := 50) d8_49 rfl (rfl) rfl ?_
  refine OwnW.iload (pc' := 52) d8_50 rfl rfl ?_
  refine OwnW.ifcN (pc' := 55) d8_52 ((if0 _ _).trans (flt hv).1) rfl ?_
  refine OwnW.iconst (pc' := 56) (v := (1 : Int32)) d8_55 rfl rfl ?_
  refine OwnW.goto (pc' := 60) d8_56 (by decide) (by decide) ?_
  refine OwnW.putFN (a0 := a0) (pc' := 63) (v' := (.int (1 : Int32))) d8_60 (hw _ (List.mem_of_getElem? (i := 18) rfl)) Via.refl F_al E_o (Or.inl (hw _ (List.mem_of_getElem? (i := 19) rfl))) (hw _ (List.mem_of_getElem? (i := 10) rfl)) (ty := .boolean) (by decide) rfl (by decide) g_o rfl ?_
  intro h1 W1
  have sz2 : n0 ≤ h1.size := (by rw [W1.size]; exact Z0)
  have F3 := F_al.same W1
  refine OwnW.aloadN (pc' := 64) d8_63 rfl (rfl) rfl ?_
  refine OwnW.getF (a0 := a0) (pc' := 67) d8_64 (host := "") (Or.inl (hw _ (List.mem_of_getElem? (i := 18) rfl))) Via.refl F3 rfl ?_
  refine OwnW.ifcN (pc' := 70) d8_67 ((if0 _ _).trans (feq (by decide)).1) rfl ?_
  refine OwnW.aloadN (pc' := 71) d8_70 rfl (rfl) rfl ?_
  refine OwnW.iload (pc' := 73) d8_71 rfl rfl ?_
  have F4 := (E_o.wr W1)
  have F5 := (F_enc.other W1 (Or.inr (slot_ne (a0 := a0) (C := "com/example/plumbline/plumbline/BaseEncoding$Reading") (Or.inr (hw _ (List.mem_of_getElem? (i := 21) rfl))) (Or.inl (hw _ (List.mem_of_getElem? (i := 19) rfl))) (by decide) (t := (.object "com/example/plumbline/plumbline/BaseEncoding")) (t' := .boolean) (by decide) (by decide))))
  have F6 := (F_P.other W1 (Or.inr (slot_ne (a0 := a0) (C := "com/example/plumbline/plumbline/BaseEncoding$Reading") (Or.inl (hw _ (List.mem_of_getElem? (i := 112) rfl))) (Or.inl (hw _ (List.mem_of_getElem? (i := 19) rfl))) (by decide) (t := .int) (t' := .boolean) (by decide) (by decide))))
  have F7 := (F_hd.other W1 (Or.inr (slot_ne (a0 := a0) (C := "com/example/plumbline/plumbline/BaseEncoding$Reading") (Or.inl (hw _ (List.mem_of_getElem? (i := 116) rfl))) (Or.inl (hw _ (List.mem_of_getElem? (i := 19) rfl))) (by decide) (t := .int) (t' := .boolean) (by decide) (by decide))))
  have F8 := (F_by.other W1 (Or.inr (slot_ne (a0 := a0) (C := "com/example/plumbline/plumbline/BaseEncoding$Reading") (Or.inr (hw _ (List.mem_of_getElem? (i := 23) rfl))) (Or.inl (hw _ (List.mem_of_getElem? (i := 19) rfl))) (by decide) (t := (.array .byte)) (t' := .boolean) (by decide) (by decide))))
  have F9 := (F_cnt.other W1 (Or.inr (slot_ne (a0 := a0) (C := "com/example/plumbline/plumbline/BaseEncoding$Reading") (Or.inl (hw _ (List.mem_of_getElem? (i := 122) rfl))) (Or.inl (hw _ (List.mem_of_getElem? (i := 19) rfl))) (by decide) (t := .int) (t' := .boolean) (by decide) (by decide))))
  have F10 := (F_b.other W1 (Or.inl ne_e_o))
  have F11 := (E_e.wr W1)
  refine OwnW.callP (a0 := a0) (pc' := 76) (W := 0) (k' := 0) (n' := 0) (argsL := [(.int (f18 k c))]) (rest := []) d8_73 (hw _ (List.mem_of_getElem? (i := 107) rfl)) (hw _ (List.mem_of_getElem? (i := 108) rfl)) (hw _ (List.mem_of_getElem? (i := 10) rfl)) (hw _ (List.mem_of_getElem? (i := 109) rfl)) (hw _ (List.mem_of_getElem? (i := 11) rfl)) (hw _ (List.mem_of_getElem? (i := 110) rfl)) (by decide) F4 (rm20sn l Z a0 hw o (f18 k c) P hd cnt e b h1 n0 sz2 g_o F4 F3 F5 F6 F7 F8 F9 F10 F11 hlt ne_e_o) (by decide) (by decide) rfl rfl (by decide) (by decide) rfl pd_28I29V rfl rfl rfl (Nat.le_of_ble_eq_true rfl) rfl ?_
  rintro h12 v12 ⟨rfl, K12, Fc12_0, Fc12_1, Fc12_2, Fc12_3, Fc12_4, Fc12_5, Fc12_6⟩
  have F13 := (S_CS.wr W1)
  have S14 := OwnW.sta_keep F13 K12 (allS (OwnW.exa_ns F4) all0)
  have F15 := (S_SF.wr W1)
  have S16 := OwnW.sta_keep F15 K12 (allS (OwnW.exa_ns F4) all0)
  have sz17 : n0 ≤ h12.size := Nat.le_trans sz2 K12.1
  show GoB8sn l Z n0 (Q8sn Z o q0 cs bb bk bv sv c P hd cnt e b k t h0) h12 0 0 76 #[.val (.ref o), .val (.ref q0), .val (.int (0 : Int32)), .val (.int c), .val (.int (f18 k c))] []
  refine OwnW.iinc (pc' := 79) (L' := #[.val (.ref o), .val (.ref q0), .val (.int (1 : Int32)), .val (.int c), .val (.int (f18 k c))]) (d := (1 : Int32)) d8_76 rfl rfl rfl rfl ?_
  refine OwnW.goto (pc' := 2) d8_79 (by decide) (by decide) ?_
  refine OwnW.iloadN (pc' := 3) d8_2 rfl rfl ?_
  refine OwnW.aloadN (pc' := 4) d8_3 rfl (rfl) rfl ?_
  have F18 := ((E_q.wr W1).keep K12)
  have F19 := ((F_c.other W1 (Or.inl ne_q0_o)).keep K12 (ninS ne_q0_o nin0))
  have F20 := ((F_v.other W1 (Or.inl ne_q0_o)).keep K12 (ninS ne_q0_o nin0))
  have F21 := ((A_b.other W1 ne_bb_o).keep K12 (ninS ne_bb_o nin0))
  refine OwnW.callVF0 (a0 := a0) (pc' := 9) (W := 1) (k' := 0) (n' := 0) (argsL := []) (rest := [(.int (1 : Int32))]) (St' := [(.int (f9 q0 cs bb bk bv)), (.int (1 : Int32))]) d8_4 (hw _ (List.mem_of_getElem? (i := 53) rfl)) (hw _ (List.mem_of_getElem? (i := 54) rfl)) (hw _ (List.mem_of_getElem? (i := 55) rfl)) (hw _ (List.mem_of_getElem? (i := 56) rfl)) (hw _ (List.mem_of_getElem? (i := 57) rfl)) (hw _ (List.mem_of_getElem? (i := 58) rfl)) (hw _ (List.mem_of_getElem? (i := 59) rfl)) (hw _ (List.mem_of_getElem? (i := 60) rfl)) (hw _ (List.mem_of_getElem? (i := 26) rfl)) (hw _ (List.mem_of_getElem? (i := 61) rfl)) (by decide) F18 (rm9 l Z a0 hw q0 cs bb bk bv h12 n0 F18 S14 F19 F20 F21 hcs) (by decide) (by decide) rfl rfl (by decide) (by decide) rfl pd_2829I rfl rfl rfl (Nat.le_of_ble_eq_true rfl) rfl rfl ?_
  rw [show (f9 q0 cs bb bk bv) = (1 : Int32) from rfl]
  show GoB8sn l Z n0 (Q8sn Z o q0 cs bb bk bv sv c P hd cnt e b k t h0) h12 0 0 9 #[.val (.ref o), .val (.ref q0), .val (.int (1 : Int32)), .val (.int c), .val (.int (f18 k c))] [(.int (1 : Int32)), (.int (1 : Int32))]
  refine OwnW.icmpY (pc' := 82) d8_9 (flt (by decide)).2.1 (by decide) (by decide) ?_
  exact OwnW.ret0 d8_82 rfl (by decide) (by decide) (⟨rfl, (((Keep.refl h0 [o]).wr W1 (Or.inl (List.mem_of_getElem? (i := 0) rfl))).trans K12 (allS (Or.inl (List.mem_of_getElem? (i := 0) rfl)) all0)), Fc12_0, Fc12_1, Fc12_2, Fc12_3, Fc12_4, Fc12_5, Fc12_6⟩)
def Q8sa (Z : State) (o : Addr) (q0 : Addr) (cs : Int32) (bb : Addr) (bk : ClassId) (bv : Int32) (sv : Value) (c : Int32) (P : Int32) (hd : Int32) (cnt : Int32) (e : Addr) (b : Int32) (k : Int32) (t : Addr) (ya : Addr) (h0 : Heap) (v : Option Value) (h : Heap) : Prop := v = none ∧ Keep h0 h [o] ∧ Exa Z h o "com/example/plumbline/plumbline/BaseEncoding$Reading" ∧ Fld Z h o "com/example/plumbline/plumbline/BaseEncoding$Reading" "inAlphabet" "Z" (.int (1 : Int32)) ∧ Fld Z h o "com/example/plumbline/plumbline/BaseEncoding$Reading" "encoding" "Lcom/example/plumbline/plumbline/BaseEncoding;" (.ref e) ∧ Fld Z h o "com/example/plumbline/plumbline/BaseEncoding$Reading" "pending" "I" (.int ((P <<< (b &&& 31)) ||| (f18 k c))) ∧ Fld Z h o "com/example/plumbline/plumbline/BaseEncoding$Reading" "held" "I" (.int (hd + b)) ∧ Fld Z h o "com/example/plumbline/plumbline/BaseEncoding$Reading" "bytes" "[B" (.ref ya) ∧ Fld Z h o "com/example/plumbline/plumbline/BaseEncoding$Reading" "count" "I" (.int cnt)
abbrev GoB8sa (l : Launch) (Z : State) (n0 : Nat) (Q : Option Value → Heap → Prop) := Go l Z ({ frames := 4, cells := 0, slots := 0, locals := 53 } : Room) (⟨"com/example/plumbline/plumbline/BaseEncoding$Reading", "append", "(Ljava/lang/CharSequence;)V"⟩ : MethodName) prog_5_method_2_code 5 none n0 Q
theorem ef8sa (m : MethodId) (o : Addr) (q0 : Addr) : entryFrame m #[(.ref o), (.ref q0)] 5 = mkF m 0 #[.val (.ref o), .val (.ref q0), .unset, .unset, .unset] [] := by first | (simp [entryFrame, mkF, argsToLocals, Value.category]; done) | rfl
set_option maxRecDepth 65536 in
set_option maxHeartbeats 40000000 in
theorem rm8sa (l : Launch) (Z : State) (a0 : Array Value) (hw : ∀ d ∈ tables_1, d.before a0 Z = true) (o : Addr) (q0 : Addr) (cs : Int32) (bb : Addr) (bk : ClassId) (bv : Int32) (sv : Value) (c : Int32) (P : Int32) (hd : Int32) (cnt : Int32) (e : Addr) (b : Int32) (k : Int32) (t : Addr) (ya : Addr) (h0 : Heap) (n0 : Nat) (Z0 : n0 ≤ h0.size) (g_o : n0 ≤ o) (E_o : Exa Z h0 o "com/example/plumbline/plumbline/BaseEncoding$Reading") (F_al : Fld Z h0 o "com/example/plumbline/plumbline/BaseEncoding$Reading" "inAlphabet" "Z" (.int (1 : Int32))) (F_enc : Fld Z h0 o "com/example/plumbline/plumbline/BaseEncoding$Reading" "encoding" "Lcom/example/plumbline/plumbline/BaseEncoding;" (.ref e)) (F_P : Fld Z h0 o "com/example/plumbline/plumbline/BaseEncoding$Reading" "pending" "I" (.int P)) (F_hd : Fld Z h0 o "com/example/plumbline/plumbline/BaseEncoding$Reading" "held" "I" (.int hd)) (F_by : Fld Z h0 o "com/example/plumbline/plumbline/BaseEncoding$Reading" "bytes" "[B" (.ref ya)) (F_cnt : Fld Z h0 o "com/example/plumbline/plumbline/BaseEncoding$Reading" "count" "I" (.int cnt)) (E_q : Exa Z h0 q0 "java/lang/String") (F_c : Fld Z h0 q0 "java/lang/String" "coder" "B" (.int (0 : Int32))) (F_v : Fld Z h0 q0 "java/lang/String" "value" "[B" (.ref bb)) (A_b : Arv Z h0 bb bk .byte (1 : Int32) [(.int bv)] (.int (0 : Int32))) (S_CS : Sta Z h0 "java/lang/String" "COMPACT_STRINGS" "Z" (.int cs)) (S_SF : Sta Z h0 "jdk/internal/util/Preconditions" "SIOOBE_FORMATTER" "Ljava/util/function/BiFunction;" sv) (F_b : Fld Z h0 e "com/example/plumbline/plumbline/BaseEncoding" "bits" "I" (.int b)) (E_e : Exa Z h0 e "com/example/plumbline/plumbline/BaseEncoding") (F_t : Fld Z h0 e "com/example/plumbline/plumbline/BaseEncoding" "values" "[I" (.ref t)) (T_t : Tab Z h0 t k) (hcs : ¬ cs = (0 : Int32)) (hsv : sv.isRef = true) (hch : (f11 q0 cs bb bk bv sv) = c) (hc0 : ¬ c < (0 : Int32)) (hv : ¬ (f18 k c) < (0 : Int32)) (hlt : (hd + b) < (8 : Int32)) (ne_q0_o : q0 ≠ o) (ne_bb_o : bb ≠ o) (ne_e_o : e ≠ o) (ne_t_o : t ≠ o) (ne_ya_o : ya ≠ o) (ne_q0_ya : q0 ≠ ya) (ne_bb_ya : bb ≠ ya) (ne_e_ya : e ≠ ya) (ne_t_ya : t ≠ ya) :
    Con l Z ({ frames := 4, cells := 0, slots := 0, locals := 53 } : Room) (⟨"com/example/plumbline/plumbline/BaseEncoding$Reading", "append", "(Ljava/lang/CharSequence;)V"⟩ : MethodName) prog_5_method_2_code 5 none n0 #[(.ref o), (.ref q0)] h0 (Q8sa Z o q0 cs bb bk bv sv c P hd cnt e b k t ya h0) := by
  refine OwnW.Con.of (by first | decide +kernel | exact plainFor_of_name (by simp [plainName, overriddenIn])) (fun m => ef8sa m o q0) ?_
  show GoB8sa l Z n0 (Q8sa Z o q0 cs bb bk bv sv c P hd cnt e b k t ya h0) h0 0 0 0 #[.val (.ref o), .val (.ref q0), .unset, .unset, .unset] []
  refine OwnW.iconst (pc' := 1) (v := (0 : Int32)) d8_0 rfl rfl ?_
  refine OwnW.istoreN (pc' := 2) (L' := #[.val (.ref o), .val (.ref q0), .val (.int (0 : Int32)), .unset, .unset]) d8_1 rfl rfl ?_
  refine OwnW.iloadN (pc' := 3) d8_2 rfl rfl ?_
  refine OwnW.aloadN (pc' := 4) d8_3 rfl (rfl) rfl ?_
  refine OwnW.callVF0 (a0 := a0) (pc' := 9) (W := 1) (k' := 0) (n' := 0) (argsL := []) (rest := [(.int (0 : Int32))]) (St' := [(.int (f9 q0 cs bb bk bv)), (.int (0 : Int32))]) d8_4 (hw _ (List.mem_of_getElem? (i := 53) rfl)) (hw _ (List.mem_of_getElem? (i := 54) rfl)) (hw _ (List.mem_of_getElem? (i := 55) rfl)) (hw _ (List.mem_of_getElem? (i := 56) rfl)) (hw _ (List.mem_of_getElem? (i := 57) rfl)) (hw _ (List.mem_of_getElem? (i := 58) rfl)) (hw _ (List.mem_of_getElem? (i := 59) rfl)) (hw _ (List.mem_of_getElem? (i := 60) rfl)) (hw _ (List.mem_of_getElem? (i := 26) rfl)) (hw _ (List.mem_of_getElem? (i := 61) rfl)) (by decide) E_q (rm9 l Z a0 hw q0 cs bb bk bv h0 n0 E_q S_CS F_c F_v A_b hcs) (by decide) (by decide) rfl rfl (by decide) (by decide) rfl pd_2829I rfl rfl rfl (Nat.le_of_ble_eq_true rfl) rfl rfl ?_
  rw [show (f9 q0 cs bb bk bv) = (1 : Int32) from rfl]
  show GoB8sa l Z n0 (Q8sa Z o q0 cs bb bk bv sv c P hd cnt e b k t ya h0) h0 0 0 9 #[.val (.ref o), .val (.ref q0), .val (.int (0 : Int32)), .unset, .unset] [(.int (1 : Int32)), (.int (0 : Int32))]
  refine OwnW.icmpN (pc' := 12) d8_9 (tlt (by decide)).2.1 rfl ?_
  refine OwnW.aloadN (pc' := 13) d8_12 rfl (rfl) rfl ?_
  refine OwnW.getF (a0 := a0) (pc' := 16) d8_13 (host := "") (Or.inl (hw _ (List.mem_of_getElem? (i := 18) rfl))) Via.refl F_al rfl ?_
  refine OwnW.ifcN (pc' := 19) d8_16 ((if0 _ _).trans (feq (by decide)).1) rfl ?_
  refine OwnW.aloadN (pc' := 20) d8_19 rfl (rfl) rfl ?_
  refine OwnW.iloadN (pc' := 21) d8_20 rfl rfl ?_
  refine OwnW.callVF0 (a0 := a0) (pc' := 26) (W := 0) (k' := 0) (n' := 0) (argsL := [(.int (0 : Int32))]) (rest := []) (St' := [(.int (f11 q0 cs bb bk bv sv))]) d8_21 (hw _ (List.mem_of_getElem? (i := 67) rfl)) (hw _ (List.mem_of_getElem? (i := 68) rfl)) (hw _ (List.mem_of_getElem? (i := 69) rfl)) (hw _ (List.mem_of_getElem? (i := 70) rfl)) (hw _ (List.mem_of_getElem? (i := 71) rfl)) (hw _ (List.mem_of_getElem? (i := 72) rfl)) (hw _ (List.mem_of_getElem? (i := 73) rfl)) (hw _ (List.mem_of_getElem? (i := 60) rfl)) (hw _ (List.mem_of_getElem? (i := 26) rfl)) (hw _ (List.mem_of_getElem? (i := 74) rfl)) (by decide) E_q (rm11 l Z a0 hw q0 cs bb bk bv sv h0 n0 E_q S_CS S_SF F_c F_v A_b hcs hsv) (by decide) (by decide) rfl rfl (by decide) (by decide) rfl pd_28I29C rfl rfl rfl (Nat.le_of_ble_eq_true rfl) rfl rfl ?_
  rw [show (f11 q0 cs bb bk bv sv) = c from hch]
  show GoB8sa l Z n0 (Q8sa Z o q0 cs bb bk bv sv c P hd cnt e b k t ya h0) h0 0 0 26 #[.val (.ref o), .val (.ref q0), .val (.int (0 : Int32)), .unset, .unset] [(.int c)]
  refine OwnW.istoreN (pc' := 27) (L' := #[.val (.ref o), .val (.ref q0), .val (.int (0 : Int32)), .val (.int c), .unset]) d8_26 rfl rfl ?_
  refine OwnW.iloadN (pc' := 28) d8_27 rfl rfl ?_
  refine OwnW.sipush (pc' := 31) (v := (128 : Int32)) d8_28 rfl rfl ?_
  suffices J31_47 : ∀ (va : Int32), va = (if c < (128 : Int32) then (f18 k c) else (-1 : Int32)) → GoB8sa l Z n0 (Q8sa Z o q0 cs bb bk bv sv c P hd cnt e b k t ya h0) h0 0 0 47 #[.val (.ref o), .val (.ref q0), .val (.int (0 : Int32)), .val (.int c), .unset] [(.int va)] by
    by_cases hc31 : c < (128 : Int32)
    ·
      refine OwnW.icmpN (pc' := 34) d8_31 (tlt hc31).2.1 rfl ?_
      refine OwnW.aloadN (pc' := 35) d8_34 rfl (rfl) rfl ?_
      refine OwnW.getF (a0 := a0) (pc' := 38) d8_35 (host := "") (Or.inl (hw _ (List.mem_of_getElem? (i := 20) rfl))) Via.refl F_enc rfl ?_
      refine OwnW.getF (a0 := a0) (pc' := 41) d8_38 (Or.inr (hw _ (List.mem_of_getElem? (i := 91) rfl))) Via.refl F_t rfl ?_
      refine OwnW.iloadN (pc' := 42) d8_41 rfl rfl ?_
      obtain ⟨clt, At_, St_, Vt⟩ := id T_t
      refine OwnW.iaload (pc' := 43) (v := .int (f18 k c)) d8_42 At_ (own_in St_ hc0 hc31) (Vt c hc0 hc31) rfl ?_
      show GoB8sa l Z n0 (Q8sa Z o q0 cs bb bk bv sv c P hd cnt e b k t ya h0) h0 0 0 43 #[.val (.ref o), .val (.ref q0), .val (.int (0 : Int32)), .val (.int c), .unset] [(.int (f18 k c))]
      refine OwnW.goto (pc' := 47) d8_43 (by decide) (by decide) ?_
      exact J31_47 _ (by first | simp only [if_pos hc31] | rfl)
    ·
      refine OwnW.icmpY (pc' := 46) d8_31 (flt hc31).2.1 (by decide) (by decide) ?_
      refine OwnW.iconst (pc' := 47) (v := (-1 : Int32)) d8_46 rfl rfl ?_
      exact J31_47 _ (by first | simp only [if_neg hc31] | rfl)
  intro va hva
  rw [show va = (f18 k c) from (own_va hva)]
  show GoB8sa l Z n0 (Q8sa Z o q0 cs bb bk bv sv c P hd cnt e b k t ya h0) h0 0 0 47 #[.val (.ref o), .val (.ref q0), .val (.int (0 : Int32)), .val (.int c), .unset] [(.int (f18 k c))]
  refine OwnW.istore (pc' := 49) (L' := #[.val (.ref o), .val (.ref q0), .val (.int (0 : Int32)), .val (.int c), .val (.int (f18 k c))]) d8_47 rfl rfl ?_
  refine OwnW.aloadN (pc' := 50) d8_49 rfl (rfl) rfl ?_
  refine OwnW.iload (pc' := 52) d8_50 rfl rfl ?_
  refine OwnW.ifcN (pc' := 55) d8_52 ((if0 _ _).trans (flt hv).1) rfl ?_
  refine OwnW.iconst (pc' := 56) (v := (1 : Int32)) d8_55 rfl rfl ?_
  refine OwnW.goto (pc' := 60) d8_56 (by decide) (by decide) ?_
  refine OwnW.putFN (a0 := a0) (pc' := 63) (v' := (.int (1 : Int32))) d8_60 (hw _ (List.mem_of_getElem? (i := 18) rfl)) Via.refl F_al E_o (Or.inl (hw _ (List.mem_of_getElem? (i := 19) rfl))) (hw _ (List.mem_of_getElem? (i := 10) rfl)) (ty := .boolean) (by decide) rfl (by decide) g_o rfl ?_
  intro h1 W1
  have sz2 : n0 ≤ h1.size := (by rw [W1.size]; exact Z0)
  have F3 := F_al.same W1
  refine OwnW.aloadN (pc' := 64) d8_63 rfl (rfl) rfl ?_
  refine OwnW.getF (a0 := a0) (pc' := 67) d8_64 (host := "") (Or.inl (hw _ (List.mem_of_getElem? (i := 18) rfl))) Via.refl F3 rfl ?_
  refine OwnW.ifcN (pc' := 70) d8_67 ((if0 _ _).trans (feq (by decide)).1) rfl ?_
  refine OwnW.aloadN (pc' := 71) d8_70 rfl (rfl) rfl ?_
  refine OwnW.iload (pc' := 73) d8_71 rfl rfl ?_
  have F4 := (E_o.wr W1)
  have F5 := (F_enc.other W1 (Or.inr (slot_ne (a0 := a0) (C := "com/example/plumbline/plumbline/BaseEncoding$Reading") (Or.inr (hw _ (List.mem_of_getElem? (i := 21) rfl))) (Or.inl (hw _ (List.mem_of_getElem? (i := 19) rfl))) (by decide) (t := (.object "com/example/plumbline/plumbline/BaseEncoding")) (t' := .boolean) (by decide) (by decide))))
  have F6 := (F_P.other W1 (Or.inr (slot_ne (a0 := a0) (C := "com/example/plumbline/plumbline/BaseEncoding$Reading") (Or.inl (hw _ (List.mem_of_getElem? (i := 112) rfl))) (Or.inl (hw _ (List.mem_of_getElem? (i := 19) rfl))) (by decide) (t := .int) (t' := .boolean) (by decide) (by decide))))
  have F7 := (F_hd.other W1 (Or.inr (slot_ne (a0 := a0) (C := "com/example/plumbline/plumbline/BaseEncoding$Reading") (Or.inl (hw _ (List.mem_of_getElem? (i := 116) rfl))) (Or.inl (hw _ (List.mem_of_getElem? (i := 19) rfl))) (by decide) (t := .int) (t' := .boolean) (by decide) (by decide))))
  have F8 := (F_by.other W1 (Or.inr (slot_ne (a0 := a0) (C := "com/example/plumbline/plumbline/BaseEncoding$Reading") (Or.inr (hw _ (List.mem_of_getElem? (i := 23) rfl))) (Or.inl (hw _ (List.mem_of_getElem? (i := 19) rfl))) (by decide) (t := (.array .byte)) (t' := .boolean) (by decide) (by decide))))
  have F9 := (F_cnt.other W1 (Or.inr (slot_ne (a0 := a0) (C := "com/example/plumbline/plumbline/BaseEncoding$Reading") (Or.inl (hw _ (List.mem_of_getElem? (i := 122) rfl))) (Or.inl (hw _ (List.mem_of_getElem? (i := 19) rfl))) (by decide) (t := .int) (t' := .boolean) (by decide) (by decide))))
  have F10 := (F_b.other W1 (Or.inl ne_e_o))
  have F11 := (E_e.wr W1)
  refine OwnW.callP (a0 := a0) (pc' := 76) (W := 0) (k' := 0) (n' := 0) (argsL := [(.int (f18 k c))]) (rest := []) d8_73 (hw _ (List.mem_of_getElem? (i := 107) rfl)) (hw _ (List.mem_of_getElem? (i := 108) rfl)) (hw _ (List.mem_of_getElem? (i := 10) rfl)) (hw _ (List.mem_of_getElem? (i := 109) rfl)) (hw _ (List.mem_of_getElem? (i := 11) rfl)) (hw _ (List.mem_of_getElem? (i := 110) rfl)) (by decide) F4 (rm20sa l Z a0 hw o (f18 k c) P hd cnt e b ya h1 n0 sz2 g_o F4 F3 F5 F6 F7 F8 F9 F10 F11 hlt ne_e_o) (by decide) (by decide) rfl rfl (by decide) (by decide) rfl pd_28I29V rfl rfl rfl (Nat.le_of_ble_eq_true rfl) rfl ?_
  rintro h12 v12 ⟨rfl, K12, Fc12_0, Fc12_1, Fc12_2, Fc12_3, Fc12_4, Fc12_5, Fc12_6⟩
  have F13 := (S_CS.wr W1)
  have S14 := OwnW.sta_keep F13 K12 (allS (OwnW.exa_ns F4) all0)
  have F15 := (S_SF.wr W1)
  have S16 := OwnW.sta_keep F15 K12 (allS (OwnW.exa_ns F4) all0)
  have sz17 : n0 ≤ h12.size := Nat.le_trans sz2 K12.1
  show GoB8sa l Z n0 (Q8sa Z o q0 cs bb bk bv sv c P hd cnt e b k t ya h0) h12 0 0 76 #[.val (.ref o), .val (.ref q0), .val (.int (0 : Int32)), .val (.int c), .val (.int (f18 k c))] []
  refine OwnW.iinc (pc' := 79) (L' := #[.val (.ref o), .val (.ref q0), .val (.int (1 : Int32)), .val (.int c), .val (.int (f18 k c))]) (d := (1 : Int32)) d8_76 rfl rfl rfl rfl ?_
  refine OwnW.goto (pc' := 2) d8_79 (by decide) (by decide) ?_
  refine OwnW.iloadN (pc' := 3) d8_2 rfl rfl ?_
  refine OwnW.aloadN (pc' := 4) d8_3 rfl (rfl) rfl ?_
  have F18 := ((E_q.wr W1).keep K12)
  have F19 := ((F_c.other W1 (Or.inl ne_q0_o)).keep K12 (ninS ne_q0_o nin0))
  have F20 := ((F_v.other W1 (Or.inl ne_q0_o)).keep K12 (ninS ne_q0_o nin0))
  have F21 := ((A_b.other W1 ne_bb_o).keep K12 (ninS ne_bb_o nin0))
  refine OwnW.callVF0 (a0 := a0) (pc' := 9) (W := 1) (k' := 0) (n' := 0) (argsL := []) (rest := [(.int (1 : Int32))]) (St' := [(.int (f9 q0 cs bb bk bv)), (.int (1 : Int32))]) d8_4 (hw _ (List.mem_of_getElem? (i := 53) rfl)) (hw _ (List.mem_of_getElem? (i := 54) rfl)) (hw _ (List.mem_of_getElem? (i := 55) rfl)) (hw _ (List.mem_of_getElem? (i := 56) rfl)) (hw _ (List.mem_of_getElem? (i := 57) rfl)) (hw _ (List.mem_of_getElem? (i := 58) rfl)) (hw _ (List.mem_of_getElem? (i := 59) rfl)) (hw _ (List.mem_of_getElem? (i := 60) rfl)) (hw _ (List.mem_of_getElem? (i := 26) rfl)) (hw _ (List.mem_of_getElem? (i := 61) rfl)) (by decide) F18 (rm9 l Z a0 hw q0 cs bb bk bv h12 n0 F18 S14 F19 F20 F21 hcs) (by decide) (by decide) rfl rfl (by decide) (by decide) rfl pd_2829I rfl rfl rfl (Nat.le_of_ble_eq_true rfl) rfl rfl ?_
  rw [show (f9 q0 cs bb bk bv) = (1 : Int32) from rfl]
  show GoB8sa l Z n0 (Q8sa Z o q0 cs bb bk bv sv c P hd cnt e b k t ya h0) h12 0 0 9 #[.val (.ref o), .val (.ref q0), .val (.int (1 : Int32)), .val (.int c), .val (.int (f18 k c))] [(.int (1 : Int32)), (.int (1 : Int32))]
  refine OwnW.icmpY (pc' := 82) d8_9 (flt (by decide)).2.1 (by decide) (by decide) ?_
  exact OwnW.ret0 d8_82 rfl (by decide) (by decide) (⟨rfl, (((Keep.refl h0 [o]).wr W1 (Or.inl (List.mem_of_getElem? (i := 0) rfl))).trans K12 (allS (Or.inl (List.mem_of_getElem? (i := 0) rfl)) all0)), Fc12_0, Fc12_1, Fc12_2, Fc12_3, Fc12_4, Fc12_5, Fc12_6⟩)
def Q8nn (Z : State) (o : Addr) (q0 : Addr) (cs : Int32) (bb : Addr) (bk : ClassId) (bv : Int32) (sv : Value) (c : Int32) (P : Int32) (hd : Int32) (cnt : Int32) (e : Addr) (b : Int32) (k : Int32) (t : Addr) (h0 : Heap) (v : Option Value) (h : Heap) : Prop := v = none ∧ Keep h0 h [o] ∧ Exa Z h o "com/example/plumbline/plumbline/BaseEncoding$Reading" ∧ Fld Z h o "com/example/plumbline/plumbline/BaseEncoding$Reading" "inAlphabet" "Z" (.int (1 : Int32)) ∧ Fld Z h o "com/example/plumbline/plumbline/BaseEncoding$Reading" "encoding" "Lcom/example/plumbline/plumbline/BaseEncoding;" (.ref e) ∧ Fld Z h o "com/example/plumbline/plumbline/BaseEncoding$Reading" "pending" "I" (.int (((P <<< (b &&& 31)) ||| (f18 k c)) &&& (((1 : Int32) <<< (((hd + b) - (8 : Int32)) &&& 31)) - (1 : Int32)))) ∧ Fld Z h o "com/example/plumbline/plumbline/BaseEncoding$Reading" "held" "I" (.int ((hd + b) - (8 : Int32))) ∧ Fld Z h o "com/example/plumbline/plumbline/BaseEncoding$Reading" "bytes" "[B" .null ∧ Fld Z h o "com/example/plumbline/plumbline/BaseEncoding$Reading" "count" "I" (.int cnt)
abbrev GoB8nn (l : Launch) (Z : State) (n0 : Nat) (Q : Option Value → Heap → Prop) := Go l Z ({ frames := 4, cells := 0, slots := 0, locals := 53 } : Room) (⟨"com/example/plumbline/plumbline/BaseEncoding$Reading", "append", "(Ljava/lang/CharSequence;)V"⟩ : MethodName) prog_5_method_2_code 5 none n0 Q
theorem ef8nn (m : MethodId) (o : Addr) (q0 : Addr) : entryFrame m #[(.ref o), (.ref q0)] 5 = mkF m 0 #[.val (.ref o), .val (.ref q0), .unset, .unset, .unset] [] := by first | (simp [entryFrame, mkF, argsToLocals, Value.category]; done) | rfl
set_option maxRecDepth 65536 in
set_option maxHeartbeats 40000000 in
theorem rm8nn (l : Launch) (Z : State) (a0 : Array Value) (hw : ∀ d ∈ tables_1, d.before a0 Z = true) (o : Addr) (q0 : Addr) (cs : Int32) (bb : Addr) (bk : ClassId) (bv : Int32) (sv : Value) (c : Int32) (P : Int32) (hd : Int32) (cnt : Int32) (e : Addr) (b : Int32) (k : Int32) (t : Addr) (h0 : Heap) (n0 : Nat) (Z0 : n0 ≤ h0.size) (g_o : n0 ≤ o) (E_o : Exa Z h0 o "com/example/plumbline/plumbline/BaseEncoding$Reading") (F_al : Fld Z h0 o "com/example/plumbline/plumbline/BaseEncoding$Reading" "inAlphabet" "Z" (.int (1 : Int32))) (F_enc : Fld Z h0 o "com/example/plumbline/plumbline/BaseEncoding$Reading" "encoding" "Lcom/example/plumbline/plumbline/BaseEncoding;" (.ref e)) (F_P : Fld Z h0 o "com/example/plumbline/plumbline/BaseEncoding$Reading" "pending" "I" (.int P)) (F_hd : Fld Z h0 o "com/example/plumbline/plumbline/BaseEncoding$Reading" "held" "I" (.int hd)) (F_by : Fld Z h0 o "com/example/plumbline/plumbline/BaseEncoding$Reading" "bytes" "[B" .null) (F_cnt : Fld Z h0 o "com/example/plumbline/plumbline/BaseEncoding$Reading" "count" "I" (.int cnt)) (E_q : Exa Z h0 q0 "java/lang/String") (F_c : Fld Z h0 q0 "java/lang/String" "coder" "B" (.int (0 : Int32))) (F_v : Fld Z h0 q0 "java/lang/String" "value" "[B" (.ref bb)) (A_b : Arv Z h0 bb bk .byte (1 : Int32) [(.int bv)] (.int (0 : Int32))) (S_CS : Sta Z h0 "java/lang/String" "COMPACT_STRINGS" "Z" (.int cs)) (S_SF : Sta Z h0 "jdk/internal/util/Preconditions" "SIOOBE_FORMATTER" "Ljava/util/function/BiFunction;" sv) (F_b : Fld Z h0 e "com/example/plumbline/plumbline/BaseEncoding" "bits" "I" (.int b)) (E_e : Exa Z h0 e "com/example/plumbline/plumbline/BaseEncoding") (F_t : Fld Z h0 e "com/example/plumbline/plumbline/BaseEncoding" "values" "[I" (.ref t)) (T_t : Tab Z h0 t k) (hcs : ¬ cs = (0 : Int32)) (hsv : sv.isRef = true) (hch : (f11 q0 cs bb bk bv sv) = c) (hc0 : ¬ c < (0 : Int32)) (hv : ¬ (f18 k c) < (0 : Int32)) (hlt : ¬ (hd + b) < (8 : Int32)) (ne_q0_o : q0 ≠ o) (ne_bb_o : bb ≠ o) (ne_e_o : e ≠ o) (ne_t_o : t ≠ o) :
    Con l Z ({ frames := 4, cells := 0, slots := 0, locals := 53 } : Room) (⟨"com/example/plumbline/plumbline/BaseEncoding$Reading", "append", "(Ljava/lang/CharSequence;)V"⟩ : MethodName) prog_5_method_2_code 5 none n0 #[(.ref o), (.ref q0)] h0 (Q8nn Z o q0 cs bb bk bv sv c P hd cnt e b k t h0) := by
  refine OwnW.Con.of (by first | decide +kernel | exact plainFor_of_name (by simp [plainName, overriddenIn])) (fun m => ef8nn m o q0) ?_
  show GoB8nn l Z n0 (Q8nn Z o q0 cs bb bk bv sv c P hd cnt e b k t h0) h0 0 0 0 #[.val (.ref o), .val (.ref q0), .unset, .unset, .unset] []
  refine OwnW.iconst (pc' := 1) (v := (0 : Int32)) d8_0 rfl rfl ?_
  refine OwnW.istoreN (pc' := 2) (L' := #[.val (.ref o), .val (.ref q0), .val (.int (0 : Int32)), .unset, .unset]) d8_1 rfl rfl ?_
  refine OwnW.iloadN (pc' := 3) d8_2 rfl rfl ?_
  refine OwnW.aloadN (pc' := 4) d8_3 rfl (rfl) rfl ?_
  refine OwnW.callVF0 (a0 := a0) (pc' := 9) (W := 1) (k' := 0) (n' := 0) (argsL := []) (rest := [(.int (0 : Int32))]) (St' := [(.int (f9 q0 cs bb bk bv)), (.int (0 : Int32))]) d8_4 (hw _ (List.mem_of_getElem? (i := 53) rfl)) (hw _ (List.mem_of_getElem? (i := 54) rfl)) (hw _ (List.mem_of_getElem? (i := 55) rfl)) (hw _ (List.mem_of_getElem? (i := 56) rfl)) (hw _ (List.mem_of_getElem? (i := 57) rfl)) (hw _ (List.mem_of_getElem? (i := 58) rfl)) (hw _ (List.mem_of_getElem? (i := 59) rfl)) (hw _ (List.mem_of_getElem? (i := 60) rfl)) (hw _ (List.mem_of_getElem? (i := 26) rfl)) (hw _ (List.mem_of_getElem? (i := 61) rfl)) (by decide) E_q (rm9 l Z a0 hw q0 cs bb bk bv h0 n0 E_q S_CS F_c F_v A_b hcs) (by decide) (by decide) rfl rfl (by decide) (by decide) rfl pd_2829I rfl rfl rfl (Nat.le_of_ble_eq_true rfl) rfl rfl ?_
  rw [show (f9 q0 cs bb bk bv) = (1 : Int32) from rfl]
  show GoB8nn l Z n0 (Q8nn Z o q0 cs bb bk bv sv c P hd cnt e b k t h0) h0 0 0 9 #[.val (.ref o), .val (.ref q0), .val (.int (0 : Int32)), .unset, .unset] [(.int (1 : Int32)), (.int (0 : Int32))]
  refine OwnW.icmpN (pc' := 12) d8_9 (tlt (by decide)).2.1 rfl ?_
  refine OwnW.aloadN (pc' := 13) d8_12 rfl (rfl) rfl ?_
  refine OwnW.getF (a0 := a0) (pc' := 16) d8_13 (host := "") (Or.inl (hw _ (List.mem_of_getElem? (i := 18) rfl))) Via.refl F_al rfl ?_
  refine OwnW.ifcN (pc' := 19) d8_16 ((if0 _ _).trans (feq (by decide)).1) rfl ?_
  refine OwnW.aloadN (pc' := 20) d8_19 rfl (rfl) rfl ?_
  refine OwnW.iloadN (pc' := 21) d8_20 rfl rfl ?_
  refine OwnW.callVF0 (a0 := a0) (pc' := 26) (W := 0) (k' := 0) (n' := 0) (argsL := [(.int (0 : Int32))]) (rest := []) (St' := [(.int (f11 q0 cs bb bk bv sv))]) d8_21 (hw _ (List.mem_of_getElem? (i := 67) rfl)) (hw _ (List.mem_of_getElem? (i := 68) rfl)) (hw _ (List.mem_of_getElem? (i := 69) rfl)) (hw _ (List.mem_of_getElem? (i := 70) rfl)) (hw _ (List.mem_of_getElem? (i := 71) rfl)) (hw _ (List.mem_of_getElem? (i := 72) rfl)) (hw _ (List.mem_of_getElem? (i := 73) rfl)) (hw _ (List.mem_of_getElem? (i := 60) rfl)) (hw _ (List.mem_of_getElem? (i := 26) rfl)) (hw _ (List.mem_of_getElem? (i := 74) rfl)) (by decide) E_q (rm11 l Z a0 hw q0 cs bb bk bv sv h0 n0 E_q S_CS S_SF F_c F_v A_b hcs hsv) (by decide) (by decide) rfl rfl (by decide) (by decide) rfl pd_28I29C rfl rfl rfl (Nat.le_of_ble_eq_true rfl) rfl rfl ?_
  rw [show (f11 q0 cs bb bk bv sv) = c from hch]
  show GoB8nn l Z n0 (Q8nn Z o q0 cs bb bk bv sv c P hd cnt e b k t h0) h0 0 0 26 #[.val (.ref o), .val (.ref q0), .val (.int (0 : Int32)), .unset, .unset] [(.int c)]
  refine OwnW.istoreN (pc' := 27) (L' := #[.val (.ref o), .val (.ref q0), .val (.int (0 : Int32)), .val (.int c), .unset]) d8_26 rfl rfl ?_
  refine OwnW.iloadN (pc' := 28) d8_27 rfl rfl ?_
  refine OwnW.sipush (pc' := 31) (v := (128 : Int32)) d8_28 rfl rfl ?_
  suffices J31_47 : ∀ (va : Int32), va = (if c < (128 : Int32) then (f18 k c) else (-1 : Int32)) → GoB8nn l Z n0 (Q8nn Z o q0 cs bb bk bv sv c P hd cnt e b k t h0) h0 0 0 47 #[.val (.ref o), .val (.ref q0), .val (.int (0 : Int32)), .val (.int c), .unset] [(.int va)] by
    by_cases hc31 : c < (128 : Int32)
    ·
      refine OwnW.icmpN (pc' := 34) d8_31 (tlt hc31).2.1 rfl ?_
      refine OwnW.aloadN (pc' := 35) d8_34 rfl (rfl) rfl ?_
      refine OwnW.getF (a0 := a0) (pc' := 38) d8_35 (host := "") (Or.inl (hw _ (List.mem_of_getElem? (i := 20) rfl))) Via.refl F_enc rfl ?_
      refine OwnW.getF (a0 := a0) (pc' := 41) d8_38 (Or.inr (hw _ (List.mem_of_getElem? (i := 91) rfl))) Via.refl F_t rfl ?_
      refine OwnW.iloadN (pc' := 42) d8_41 rfl rfl ?_
      obtain ⟨clt, At_, St_, Vt⟩ := id T_t
      refine OwnW.iaload (pc' := 43) (v := .int (f18 k c)) d8_42 At_ (own_in St_ hc0 hc31) (Vt c hc0 hc31) rfl ?_
      show GoB8nn l Z n0 (Q8nn Z o q0 cs bb bk bv sv c P hd cnt e b k t h0) h0 0 0 43 #[.val (.ref o), .val (.ref q0), .val (.int (0 : Int32)), .val (.int c), .unset] [(.int (f18 k c))]
      refine OwnW.goto (pc' := 47) d8_43 (by decide) (by decide) ?_
      exact J31_47 _ (by first | simp only [if_pos hc31] | rfl)
    ·
      refine OwnW.icmpY (pc' := 46) d8_31 (flt hc31).2.1 (by decide) (by decide) ?_
      refine OwnW.iconst (pc' := 47) (v := (-1 : Int32)) d8_46 rfl rfl ?_
      exact J31_47 _ (by first | simp only [if_neg hc31] | rfl)
  intro va hva
  rw [show va = (f18 k c) from (own_va hva)]
  show GoB8nn l Z n0 (Q8nn Z o q0 cs bb bk bv sv c P hd cnt e b k t h0) h0 0 0 47 #[.val (.ref o), .val (.ref q0), .val (.int (0 : Int32)), .val (.int c), .unset] [(.int (f18 k c))]
  refine OwnW.istore (pc' := 49) (L' := #[.val (.ref o), .val (.ref q0), .val (.int (0 : Int32)), .val (.int c), .val (.int (f18 k c))]) d8_47 rfl rfl ?_
  refine OwnW.aloadN (pc' := 50) d8_49 rfl (rfl) rfl ?_
  refine OwnW.iload (pc' := 52) d8_50 rfl rfl ?_
  refine OwnW.ifcN (pc' := 55) d8_52 ((if0 _ _).trans (flt hv).1) rfl ?_
  refine OwnW.iconst (pc' := 56) (v := (1 : Int32)) d8_55 rfl rfl ?_
  refine OwnW.goto (pc' := 60) d8_56 (by decide) (by decide) ?_
  refine OwnW.putFN (a0 := a0) (pc' := 63) (v' := (.int (1 : Int32))) d8_60 (hw _ (List.mem_of_getElem? (i := 18) rfl)) Via.refl F_al E_o (Or.inl (hw _ (List.mem_of_getElem? (i := 19) rfl))) (hw _ (List.mem_of_getElem? (i := 10) rfl)) (ty := .boolean) (by decide) rfl (by decide) g_o rfl ?_
  intro h1 W1
  have sz2 : n0 ≤ h1.size := (by rw [W1.size]; exact Z0)
  have F3 := F_al.same W1
  refine OwnW.aloadN (pc' := 64) d8_63 rfl (rfl) rfl ?_
  refine OwnW.getF (a0 := a0) (pc' := 67) d8_64 (host := "") (Or.inl (hw _ (List.mem_of_getElem? (i := 18) rfl))) Via.refl F3 rfl ?_
  refine OwnW.ifcN (pc' := 70) d8_67 ((if0 _ _).trans (feq (by decide)).1) rfl ?_
  refine OwnW.aloadN (pc' := 71) d8_70 rfl (rfl) rfl ?_
  refine OwnW.iload (pc' := 73) d8_71 rfl rfl ?_
  have F4 := (E_o.wr W1)
  have F5 := (F_enc.other W1 (Or.inr (slot_ne (a0 := a0) (C := "com/example/plumbline/plumbline/BaseEncoding$Reading") (Or.inr (hw _ (List.mem_of_getElem? (i := 21) rfl))) (Or.inl (hw _ (List.mem_of_getElem? (i := 19) rfl))) (by decide) (t := (.object "com/example/plumbline/plumbline/BaseEncoding")) (t' := .boolean) (by decide) (by decide))))
  have F6 := (F_P.other W1 (Or.inr (slot_ne (a0 := a0) (C := "com/example/plumbline/plumbline/BaseEncoding$Reading") (Or.inl (hw _ (List.mem_of_getElem? (i := 112) rfl))) (Or.inl (hw _ (List.mem_of_getElem? (i := 19) rfl))) (by decide) (t := .int) (t' := .boolean) (by decide) (by decide))))
  have F7 := (F_hd.other W1 (Or.inr (slot_ne (a0 := a0) (C := "com/example/plumbline/plumbline/BaseEncoding$Reading") (Or.inl (hw _ (List.mem_of_getElem? (i := 116) rfl))) (Or.inl (hw _ (List.mem_of_getElem? (i := 19) rfl))) (by decide) (t := .int) (t' := .boolean) (by decide) (by decide))))
  have F8 := (F_by.other W1 (Or.inr (slot_ne (a0 := a0) (C := "com/example/plumbline/plumbline/BaseEncoding$Reading") (Or.inr (hw _ (List.mem_of_getElem? (i := 23) rfl))) (Or.inl (hw _ (List.mem_of_getElem? (i := 19) rfl))) (by decide) (t := (.array .byte)) (t' := .boolean) (by decide) (by decide))))
  have F9 := (F_cnt.other W1 (Or.inr (slot_ne (a0 := a0) (C := "com/example/plumbline/plumbline/BaseEncoding$Reading") (Or.inl (hw _ (List.mem_of_getElem? (i := 122) rfl))) (Or.inl (hw _ (List.mem_of_getElem? (i := 19) rfl))) (by decide) (t := .int) (t' := .boolean) (by decide) (by decide))))
  have F10 := (F_b.other W1 (Or.inl ne_e_o))
  have F11 := (E_e.wr W1)
  refine OwnW.callP (a0 := a0) (pc' := 76) (W := 0) (k' := 0) (n' := 0) (argsL := [(.int (f18 k c))]) (rest := []) d8_73 (hw _ (List.mem_of_getElem? (i := 107) rfl)) (hw _ (List.mem_of_getElem? (i := 108) rfl)) (hw _ (List.mem_of_getElem? (i := 10) rfl)) (hw _ (List.mem_of_getElem? (i := 109) rfl)) (hw _ (List.mem_of_getElem? (i := 11) rfl)) (hw _ (List.mem_of_getElem? (i := 110) rfl)) (by decide) F4 (rm20n l Z a0 hw o (f18 k c) P hd cnt e b h1 n0 sz2 g_o F4 F3 F5 F6 F7 F8 F9 F10 F11 hlt ne_e_o) (by decide) (by decide) rfl rfl (by decide) (by decide) rfl pd_28I29V rfl rfl rfl (Nat.le_of_ble_eq_true rfl) rfl ?_
  rintro h12 v12 ⟨rfl, K12, Fc12_0, Fc12_1, Fc12_2, Fc12_3, Fc12_4, Fc12_5, Fc12_6⟩
  have F13 := (S_CS.wr W1)
  have S14 := OwnW.sta_keep F13 K12 (allS (OwnW.exa_ns F4) all0)
  have F15 := (S_SF.wr W1)
  have S16 := OwnW.sta_keep F15 K12 (allS (OwnW.exa_ns F4) all0)
  have sz17 : n0 ≤ h12.size := Nat.le_trans sz2 K12.1
  show GoB8nn l Z n0 (Q8nn Z o q0 cs bb bk bv sv c P hd cnt e b k t h0) h12 0 0 76 #[.val (.ref o), .val (.ref q0), .val (.int (0 : Int32)), .val (.int c), .val (.int (f18 k c))] []
  refine OwnW.iinc (pc' := 79) (L' := #[.val (.ref o), .val (.ref q0), .val (.int (1 : Int32)), .val (.int c), .val (.int (f18 k c))]) (d := (1 : Int32)) d8_76 rfl rfl rfl rfl ?_
  refine OwnW.goto (pc' := 2) d8_79 (by decide) (by decide) ?_
  refine OwnW.iloadN (pc' := 3) d8_2 rfl rfl ?_
  refine OwnW.aloadN (pc' := 4) d8_3 rfl (rfl) rfl ?_
  have F18 := ((E_q.wr W1).keep K12)
  have F19 := ((F_c.other W1 (Or.inl ne_q0_o)).keep K12 (ninS ne_q0_o nin0))
  have F20 := ((F_v.other W1 (Or.inl ne_q0_o)).keep K12 (ninS ne_q0_o nin0))
  have F21 := ((A_b.other W1 ne_bb_o).keep K12 (ninS ne_bb_o nin0))
  refine OwnW.callVF0 (a0 := a0) (pc' := 9) (W := 1) (k' := 0) (n' := 0) (argsL := []) (rest := [(.int (1 : Int32))]) (St' := [(.int (f9 q0 cs bb bk bv)), (.int (1 : Int32))]) d8_4 (hw _ (List.mem_of_getElem? (i := 53) rfl)) (hw _ (List.mem_of_getElem? (i := 54) rfl)) (hw _ (List.mem_of_getElem? (i := 55) rfl)) (hw _ (List.mem_of_getElem? (i := 56) rfl)) (hw _ (List.mem_of_getElem? (i := 57) rfl)) (hw _ (List.mem_of_getElem? (i := 58) rfl)) (hw _ (List.mem_of_getElem? (i := 59) rfl)) (hw _ (List.mem_of_getElem? (i := 60) rfl)) (hw _ (List.mem_of_getElem? (i := 26) rfl)) (hw _ (List.mem_of_getElem? (i := 61) rfl)) (by decide) F18 (rm9 l Z a0 hw q0 cs bb bk bv h12 n0 F18 S14 F19 F20 F21 hcs) (by decide) (by decide) rfl rfl (by decide) (by decide) rfl pd_2829I rfl rfl rfl (Nat.le_of_ble_eq_true rfl) rfl rfl ?_
  rw [show (f9 q0 cs bb bk bv) = (1 : Int32) from rfl]
  show GoB8nn l Z n0 (Q8nn Z o q0 cs bb bk bv sv c P hd cnt e b k t h0) h12 0 0 9 #[.val (.ref o), .val (.ref q0), .val (.int (1 : Int32)), .val (.int c), .val (.int (f18 k c))] [(.int (1 : Int32)), (.int (1 : Int32))]
  refine OwnW.icmpY (pc' := 82) d8_9 (flt (by decide)).2.1 (by decide) (by decide) ?_
  exact OwnW.ret0 d8_82 rfl (by decide) (by decide) (⟨rfl, (((Keep.refl h0 [o]).wr W1 (Or.inl (List.mem_of_getElem? (i := 0) rfl))).trans K12 (allS (Or.inl (List.mem_of_getElem? (i := 0) rfl)) all0)), Fc12_0, Fc12_1, Fc12_2, Fc12_3, Fc12_4, Fc12_5, Fc12_6⟩)
def Q8aa (Z : State) (o : Addr) (q0 : Addr) (cs : Int32) (bb : Addr) (bk : ClassId) (bv : Int32) (sv : Value) (c : Int32) (P : Int32) (hd : Int32) (cnt : Int32) (e : Addr) (b : Int32) (k : Int32) (t : Addr) (ya : Addr) (h0 : Heap) (v : Option Value) (h : Heap) : Prop := v = none ∧ Keep h0 h [o, ya] ∧ Exa Z h o "com/example/plumbline/plumbline/BaseEncoding$Reading" ∧ Fld Z h o "com/example/plumbline/plumbline/BaseEncoding$Reading" "inAlphabet" "Z" (.int (1 : Int32)) ∧ Fld Z h o "com/example/plumbline/plumbline/BaseEncoding$Reading" "encoding" "Lcom/example/plumbline/plumbline/BaseEncoding;" (.ref e) ∧ Fld Z h o "com/example/plumbline/plumbline/BaseEncoding$Reading" "pending" "I" (.int (((P <<< (b &&& 31)) ||| (f18 k c)) &&& (((1 : Int32) <<< (((hd + b) - (8 : Int32)) &&& 31)) - (1 : Int32)))) ∧ Fld Z h o "com/example/plumbline/plumbline/BaseEncoding$Reading" "held" "I" (.int ((hd + b) - (8 : Int32))) ∧ Fld Z h o "com/example/plumbline/plumbline/BaseEncoding$Reading" "bytes" "[B" (.ref ya) ∧ Fld Z h o "com/example/plumbline/plumbline/BaseEncoding$Reading" "count" "I" (.int (cnt + (1 : Int32))) ∧ Byt Z h ya
abbrev GoB8aa (l : Launch) (Z : State) (n0 : Nat) (Q : Option Value → Heap → Prop) := Go l Z ({ frames := 4, cells := 0, slots := 0, locals := 53 } : Room) (⟨"com/example/plumbline/plumbline/BaseEncoding$Reading", "append", "(Ljava/lang/CharSequence;)V"⟩ : MethodName) prog_5_method_2_code 5 none n0 Q
theorem ef8aa (m : MethodId) (o : Addr) (q0 : Addr) : entryFrame m #[(.ref o), (.ref q0)] 5 = mkF m 0 #[.val (.ref o), .val (.ref q0), .unset, .unset, .unset] [] := by first | (simp [entryFrame, mkF, argsToLocals, Value.category]; done) | rfl
set_option maxRecDepth 65536 in
set_option maxHeartbeats 40000000 in
theorem rm8aa (l : Launch) (Z : State) (a0 : Array Value) (hw : ∀ d ∈ tables_1, d.before a0 Z = true) (o : Addr) (q0 : Addr) (cs : Int32) (bb : Addr) (bk : ClassId) (bv : Int32) (sv : Value) (c : Int32) (P : Int32) (hd : Int32) (cnt : Int32) (e : Addr) (b : Int32) (k : Int32) (t : Addr) (ya : Addr) (h0 : Heap) (n0 : Nat) (Z0 : n0 ≤ h0.size) (g_o : n0 ≤ o) (g_ya : n0 ≤ ya) (E_o : Exa Z h0 o "com/example/plumbline/plumbline/BaseEncoding$Reading") (F_al : Fld Z h0 o "com/example/plumbline/plumbline/BaseEncoding$Reading" "inAlphabet" "Z" (.int (1 : Int32))) (F_enc : Fld Z h0 o "com/example/plumbline/plumbline/BaseEncoding$Reading" "encoding" "Lcom/example/plumbline/plumbline/BaseEncoding;" (.ref e)) (F_P : Fld Z h0 o "com/example/plumbline/plumbline/BaseEncoding$Reading" "pending" "I" (.int P)) (F_hd : Fld Z h0 o "com/example/plumbline/plumbline/BaseEncoding$Reading" "held" "I" (.int hd)) (F_by : Fld Z h0 o "com/example/plumbline/plumbline/BaseEncoding$Reading" "bytes" "[B" (.ref ya)) (F_cnt : Fld Z h0 o "com/example/plumbline/plumbline/BaseEncoding$Reading" "count" "I" (.int cnt)) (E_q : Exa Z h0 q0 "java/lang/String") (F_c : Fld Z h0 q0 "java/lang/String" "coder" "B" (.int (0 : Int32))) (F_v : Fld Z h0 q0 "java/lang/String" "value" "[B" (.ref bb)) (A_b : Arv Z h0 bb bk .byte (1 : Int32) [(.int bv)] (.int (0 : Int32))) (S_CS : Sta Z h0 "java/lang/String" "COMPACT_STRINGS" "Z" (.int cs)) (S_SF : Sta Z h0 "jdk/internal/util/Preconditions" "SIOOBE_FORMATTER" "Ljava/util/function/BiFunction;" sv) (F_b : Fld Z h0 e "com/example/plumbline/plumbline/BaseEncoding" "bits" "I" (.int b)) (E_e : Exa Z h0 e "com/example/plumbline/plumbline/BaseEncoding") (F_t : Fld Z h0 e "com/example/plumbline/plumbline/BaseEncoding" "values" "[I" (.ref t)) (T_t : Tab Z h0 t k) (Y_by : Byt Z h0 ya) (hcs : ¬ cs = (0 : Int32)) (hsv : sv.isRef = true) (hch : (f11 q0 cs bb bk bv sv) = c) (hc0 : ¬ c < (0 : Int32)) (hv : ¬ (f18 k c) < (0 : Int32)) (hlt : ¬ (hd + b) < (8 : Int32)) (hcnt : ¬ (cnt < 0 ∨ 6 ≤ cnt.toNatClampNeg)) (ne_q0_o : q0 ≠ o) (ne_bb_o : bb ≠ o) (ne_e_o : e ≠ o) (ne_t_o : t ≠ o) (ne_ya_o : ya ≠ o) (ne_q0_ya : q0 ≠ ya) (ne_bb_ya : bb ≠ ya) (ne_e_ya : e ≠ ya) (ne_t_ya : t ≠ ya) :
    Con l Z ({ frames := 4, cells := 0, slots := 0, locals := 53 } : Room) (⟨"com/example/plumbline/plumbline/BaseEncoding$Reading", "append", "(Ljava/lang/CharSequence;)V"⟩ : MethodName) prog_5_method_2_code 5 none n0 #[(.ref o), (.ref q0)] h0 (Q8aa Z o q0 cs bb bk bv sv c P hd cnt e b k t ya h0) := by
  refine OwnW.Con.of (by first | decide +kernel | exact plainFor_of_name (by simp [plainName, overriddenIn])) (fun m => ef8aa m o q0) ?_
  show GoB8aa l Z n0 (Q8aa Z o q0 cs bb bk bv sv c P hd cnt e b k t ya h0) h0 0 0 0 #[.val (.ref o), .val (.ref q0), .unset, .unset, .unset] []
  refine OwnW.iconst (pc' := 1) (v := (0 : Int32)) d8_0 rfl rfl ?_
  refine OwnW.istoreN (pc' := 2) (L' := #[.val (.ref o), .val (.ref q0), .val (.int (0 : Int32)), .unset, .unset]) d8_1 rfl rfl ?_
  refine OwnW.iloadN (pc' := 3) d8_2 rfl rfl ?_
  refine OwnW.aloadN (pc' := 4) d8_3 rfl (rfl) rfl ?_
  refine OwnW.callVF0 (a0 := a0) (pc' := 9) (W := 1) (k' := 0) (n' := 0) (argsL := []) (rest := [(.int (0 : Int32))]) (St' := [(.int (f9 q0 cs bb bk bv)), (.int (0 : Int32))]) d8_4 (hw _ (List.mem_of_getElem? (i := 53) rfl)) (hw _ (List.mem_of_getElem? (i := 54) rfl)) (hw _ (List.mem_of_getElem? (i := 55) rfl)) (hw _ (List.mem_of_getElem? (i := 56) rfl)) (hw _ (List.mem_of_getElem? (i := 57) rfl)) (hw _ (List.mem_of_getElem? (i := 58) rfl)) (hw _ (List.mem_of_getElem? (i := 59) rfl)) (hw _ (List.mem_of_getElem? (i := 60) rfl)) (hw _ (List.mem_of_getElem? (i := 26) rfl)) (hw _ (List.mem_of_getElem? (i := 61) rfl)) (by decide) E_q (rm9 l Z a0 hw q0 cs bb bk bv h0 n0 E_q S_CS F_c F_v A_b hcs) (by decide) (by decide) rfl rfl (by decide) (by decide) rfl pd_2829I rfl rfl rfl (Nat.le_of_ble_eq_true rfl) rfl rfl ?_
  rw [show (f9 q0 cs bb bk bv) = (1 : Int32) from rfl]
  show GoB8aa l Z n0 (Q8aa Z o q0 cs bb bk bv sv c P hd cnt e b k t ya h0) h0 0 0 9 #[.val (.ref o), .val (.ref q0), .val (.int (0 : Int32)), .unset, .unset] [(.int (1 : Int32)), (.int (0 : Int32))]
  refine OwnW.icmpN (pc' := 12) d8_9 (tlt (by decide)).2.1 rfl ?_
  refine OwnW.aloadN (pc' := 13) d8_12 rfl (rfl) rfl ?_
  refine OwnW.getF (a0 := a0) (pc' := 16) d8_13 (host := "") (Or.inl (hw _ (List.mem_of_getElem? (i := 18) rfl))) Via.refl F_al rfl ?_
  refine OwnW.ifcN (pc' := 19) d8_16 ((if0 _ _).trans (feq (by decide)).1) rfl ?_
  refine OwnW.aloadN (pc' := 20) d8_19 rfl (rfl) rfl ?_
  refine OwnW.iloadN (pc' := 21) d8_20 rfl rfl ?_
  refine OwnW.callVF0 (a0 := a0) (pc' := 26) (W := 0) (k' := 0) (n' := 0) (argsL := [(.int (0 : Int32))]) (rest := []) (St' := [(.int (f11 q0 cs bb bk bv sv))]) d8_21 (hw _ (List.mem_of_getElem? (i := 67) rfl)) (hw _ (List.mem_of_getElem? (i := 68) rfl)) (hw _ (List.mem_of_getElem? (i := 69) rfl)) (hw _ (List.mem_of_getElem? (i := 70) rfl)) (hw _ (List.mem_of_getElem? (i := 71) rfl)) (hw _ (List.mem_of_getElem? (i := 72) rfl)) (hw _ (List.mem_of_getElem? (i := 73) rfl)) (hw _ (List.mem_of_getElem? (i := 60) rfl)) (hw _ (List.mem_of_getElem? (i := 26) rfl)) (hw _ (List.mem_of_getElem? (i := 74) rfl)) (by decide) E_q (rm11 l Z a0 hw q0 cs bb bk bv sv h0 n0 E_q S_CS S_SF F_c F_v A_b hcs hsv) (by decide) (by decide) rfl rfl (by decide) (by decide) rfl pd_28I29C rfl rfl rfl (Nat.le_of_ble_eq_true rfl) rfl rfl ?_
  rw [show (f11 q0 cs bb bk bv sv) = c from hch]
  show GoB8aa l Z n0 (Q8aa Z o q0 cs bb bk bv sv c P hd cnt e b k t ya h0) h0 0 0 26 #[.val (.ref o), .val (.ref q0), .val (.int (0 : Int32)), .unset, .unset] [(.int c)]
  refine OwnW.istoreN (pc' := 27) (L' := #[.val (.ref o), .val (.ref q0), .val (.int (0 : Int32)), .val (.int c), .unset]) d8_26 rfl rfl ?_
  refine OwnW.iloadN (pc' := 28) d8_27 rfl rfl ?_
  refine OwnW.sipush (pc' := 31) (v := (128 : Int32)) d8_28 rfl rfl ?_
  suffices J31_47 : ∀ (va : Int32), va = (if c < (128 : Int32) then (f18 k c) else (-1 : Int32)) → GoB8aa l Z n0 (Q8aa Z o q0 cs bb bk bv sv c P hd cnt e b k t ya h0) h0 0 0 47 #[.val (.ref o), .val (.ref q0), .val (.int (0 : Int32)), .val (.int c), .unset] [(.int va)] by
    by_cases hc31 : c < (128 : Int32)
    ·
      refine OwnW.icmpN (pc' := 34) d8_31 (tlt hc31).2.1 rfl ?_
      refine OwnW.aloadN (pc' := 35) d8_34 rfl (rfl) rfl ?_
      refine OwnW.getF (a0 := a0) (pc' := 38) d8_35 (host := "") (Or.inl (hw _ (List.mem_of_getElem? (i := 20) rfl))) Via.refl F_enc rfl ?_
      refine OwnW.getF (a0 := a0) (pc' := 41) d8_38 (Or.inr (hw _ (List.mem_of_getElem? (i := 91) rfl))) Via.refl F_t rfl ?_
      refine OwnW.iloadN (pc' := 42) d8_41 rfl rfl ?_
      obtain ⟨clt, At_, St_, Vt⟩ := id T_t
      refine OwnW.iaload (pc' := 43) (v := .int (f18 k c)) d8_42 At_ (own_in St_ hc0 hc31) (Vt c hc0 hc31) rfl ?_
      show GoB8aa l Z n0 (Q8aa Z o q0 cs bb bk bv sv c P hd cnt e b k t ya h0) h0 0 0 43 #[.val (.ref o), .val (.ref q0), .val (.int (0 : Int32)), .val (.int c), .unset] [(.int (f18 k c))]
      refine OwnW.goto (pc' := 47) d8_43 (by decide) (by decide) ?_
      exact J31_47 _ (by first | simp only [if_pos hc31] | rfl)
    ·
      refine OwnW.icmpY (pc' := 46) d8_31 (flt hc31).2.1 (by decide) (by decide) ?_
      refine OwnW.iconst (pc' := 47) (v := (-1 : Int32)) d8_46 rfl rfl ?_
      exact J31_47 _ (by first | simp only [if_neg hc31] | rfl)
  intro va hva
  rw [show va = (f18 k c) from (own_va hva)]
  show GoB8aa l Z n0 (Q8aa Z o q0 cs bb bk bv sv c P hd cnt e b k t ya h0) h0 0 0 47 #[.val (.ref o), .val (.ref q0), .val (.int (0 : Int32)), .val (.int c), .unset] [(.int (f18 k c))]
  refine OwnW.istore (pc' := 49) (L' := #[.val (.ref o), .val (.ref q0), .val (.int (0 : Int32)), .val (.int c), .val (.int (f18 k c))]) d8_47 rfl rfl ?_
  refine OwnW.aloadN (pc' := 50) d8_49 rfl (rfl) rfl ?_
  refine OwnW.iload (pc' := 52) d8_50 rfl rfl ?_
  refine OwnW.ifcN (pc' := 55) d8_52 ((if0 _ _).trans (flt hv).1) rfl ?_
  refine OwnW.iconst (pc' := 56) (v := (1 : Int32)) d8_55 rfl rfl ?_
  refine OwnW.goto (pc' := 60) d8_56 (by decide) (by decide) ?_
  refine OwnW.putFN (a0 := a0) (pc' := 63) (v' := (.int (1 : Int32))) d8_60 (hw _ (List.mem_of_getElem? (i := 18) rfl)) Via.refl F_al E_o (Or.inl (hw _ (List.mem_of_getElem? (i := 19) rfl))) (hw _ (List.mem_of_getElem? (i := 10) rfl)) (ty := .boolean) (by decide) rfl (by decide) g_o rfl ?_
  intro h1 W1
  have sz2 : n0 ≤ h1.size := (by rw [W1.size]; exact Z0)
  have F3 := F_al.same W1
  refine OwnW.aloadN (pc' := 64) d8_63 rfl (rfl) rfl ?_
  refine OwnW.getF (a0 := a0) (pc' := 67) d8_64 (host := "") (Or.inl (hw _ (List.mem_of_getElem? (i := 18) rfl))) Via.refl F3 rfl ?_
  refine OwnW.ifcN (pc' := 70) d8_67 ((if0 _ _).trans (feq (by decide)).1) rfl ?_
  refine OwnW.aloadN (pc' := 71) d8_70 rfl (rfl) rfl ?_
  refine OwnW.iload (pc' := 73) d8_71 rfl rfl ?_
  have F4 := (E_o.wr W1)
  have F5 := (F_enc.other W1 (Or.inr (slot_ne (a0 := a0) (C := "com/example/plumbline/plumbline/BaseEncoding$Reading") (Or.inr (hw _ (List.mem_of_getElem? (i := 21) rfl))) (Or.inl (hw _ (List.mem_of_getElem? (i := 19) rfl))) (by decide) (t := (.object "com/example/plumbline/plumbline/BaseEncoding")) (t' := .boolean) (by decide) (by decide))))
  have F6 := (F_P.other W1 (Or.inr (slot_ne (a0 := a0) (C := "com/example/plumbline/plumbline/BaseEncoding$Reading") (Or.inl (hw _ (List.mem_of_getElem? (i := 112) rfl))) (Or.inl (hw _ (List.mem_of_getElem? (i := 19) rfl))) (by decide) (t := .int) (t' := .boolean) (by decide) (by decide))))
  have F7 := (F_hd.other W1 (Or.inr (slot_ne (a0 := a0) (C := "com/example/plumbline/plumbline/BaseEncoding$Reading") (Or.inl (hw _ (List.mem_of_getElem? (i := 116) rfl))) (Or.inl (hw _ (List.mem_of_getElem? (i := 19) rfl))) (by decide) (t := .int) (t' := .boolean) (by decide) (by decide))))
  have F8 := (F_by.other W1 (Or.inr (slot_ne (a0 := a0) (C := "com/example/plumbline/plumbline/BaseEncoding$Reading") (Or.inr (hw _ (List.mem_of_getElem? (i := 23) rfl))) (Or.inl (hw _ (List.mem_of_getElem? (i := 19) rfl))) (by decide) (t := (.array .byte)) (t' := .boolean) (by decide) (by decide))))
  have F9 := (F_cnt.other W1 (Or.inr (slot_ne (a0 := a0) (C := "com/example/plumbline/plumbline/BaseEncoding$Reading") (Or.inl (hw _ (List.mem_of_getElem? (i := 122) rfl))) (Or.inl (hw _ (List.mem_of_getElem? (i := 19) rfl))) (by decide) (t := .int) (t' := .boolean) (by decide) (by decide))))
  have F10 := (F_b.other W1 (Or.inl ne_e_o))
  have F11 := (E_e.wr W1)
  have F12 := (Y_by.other W1 ne_ya_o)
  refine OwnW.callP (a0 := a0) (pc' := 76) (W := 0) (k' := 0) (n' := 0) (argsL := [(.int (f18 k c))]) (rest := []) d8_73 (hw _ (List.mem_of_getElem? (i := 107) rfl)) (hw _ (List.mem_of_getElem? (i := 108) rfl)) (hw _ (List.mem_of_getElem? (i := 10) rfl)) (hw _ (List.mem_of_getElem? (i := 109) rfl)) (hw _ (List.mem_of_getElem? (i := 11) rfl)) (hw _ (List.mem_of_getElem? (i := 110) rfl)) (by decide) F4 (rm20a l Z a0 hw o (f18 k c) P hd cnt e b ya h1 n0 sz2 g_o g_ya F4 F3 F5 F6 F7 F8 F9 F10 F11 F12 hlt hcnt ne_e_o ne_ya_o ne_e_ya) (by decide) (by decide) rfl rfl (by decide) (by decide) rfl pd_28I29V rfl rfl rfl (Nat.le_of_ble_eq_true rfl) rfl ?_
  rintro h13 v13 ⟨rfl, K13, Fc13_0, Fc13_1, Fc13_2, Fc13_3, Fc13_4, Fc13_5, Fc13_6, Fc13_7⟩
  have F14 := (S_CS.wr W1)
  have S15 := OwnW.sta_keep F14 K13 (allS (OwnW.exa_ns F4) (allS (F12).ns all0))
  have F16 := (S_SF.wr W1)
  have S17 := OwnW.sta_keep F16 K13 (allS (OwnW.exa_ns F4) (allS (F12).ns all0))
  have sz18 : n0 ≤ h13.size := Nat.le_trans sz2 K13.1
  show GoB8aa l Z n0 (Q8aa Z o q0 cs bb bk bv sv c P hd cnt e b k t ya h0) h13 0 0 76 #[.val (.ref o), .val (.ref q0), .val (.int (0 : Int32)), .val (.int c), .val (.int (f18 k c))] []
  refine OwnW.iinc (pc' := 79) (L' := #[.val (.ref o), .val (.ref q0), .val (.int (1 : Int32)), .val (.int c), .val (.int (f18 k c))]) (d := (1 : Int32)) d8_76 rfl rfl rfl rfl ?_
  refine OwnW.goto (pc' := 2) d8_79 (by decide) (by decide) ?_
  refine OwnW.iloadN (pc' := 3) d8_2 rfl rfl ?_
  refine OwnW.aloadN (pc' := 4) d8_3 rfl (rfl) rfl ?_
  have F19 := ((E_q.wr W1).keep K13)
  have F20 := ((F_c.other W1 (Or.inl ne_q0_o)).keep K13 (ninS ne_q0_o (ninS ne_q0_ya nin0)))
  have F21 := ((F_v.other W1 (Or.inl ne_q0_o)).keep K13 (ninS ne_q0_o (ninS ne_q0_ya nin0)))
  have F22 := ((A_b.other W1 ne_bb_o).keep K13 (ninS ne_bb_o (ninS ne_bb_ya nin0)))
  refine OwnW.callVF0 (a0 := a0) (pc' := 9) (W := 1) (k' := 0) (n' := 0) (argsL := []) (rest := [(.int (1 : Int32))]) (St' := [(.int (f9 q0 cs bb bk bv)), (.int (1 : Int32))]) d8_4 (hw _ (List.mem_of_getElem? (i := 53) rfl)) (hw _ (List.mem_of_getElem? (i := 54) rfl)) (hw _ (List.mem_of_getElem? (i := 55) rfl)) (hw _ (List.mem_of_getElem? (i := 56) rfl)) (hw _ (List.mem_of_getElem? (i := 57) rfl)) (hw _ (List.mem_of_getElem? (i := 58) rfl)) (hw _ (List.mem_of_getElem? (i := 59) rfl)) (hw _ (List.mem_of_getElem? (i := 60) rfl)) (hw _ (List.mem_of_getElem? (i := 26) rfl)) (hw _ (List.mem_of_getElem? (i := 61) rfl)) (by decide) F19 (rm9 l Z a0 hw q0 cs bb bk bv h13 n0 F19 S15 F20 F21 F22 hcs) (by decide) (by decide) rfl rfl (by decide) (by decide) rfl pd_2829I rfl rfl rfl (Nat.le_of_ble_eq_true rfl) rfl rfl ?_
  rw [show (f9 q0 cs bb bk bv) = (1 : Int32) from rfl]
  show GoB8aa l Z n0 (Q8aa Z o q0 cs bb bk bv sv c P hd cnt e b k t ya h0) h13 0 0 9 #[.val (.ref o), .val (.ref q0), .val (.int (1 : Int32)), .val (.int c), .val (.int (f18 k c))] [(.int (1 : Int32)), (.int (1 : Int32))]
  refine OwnW.icmpY (pc' := 82) d8_9 (flt (by decide)).2.1 (by decide) (by decide) ?_
  exact OwnW.ret0 d8_82 rfl (by decide) (by decide) (⟨rfl, (((Keep.refl h0 [o, ya]).wr W1 (Or.inl (List.mem_of_getElem? (i := 0) rfl))).trans K13 (allS (Or.inl (List.mem_of_getElem? (i := 0) rfl)) (allS (Or.inl (List.mem_of_getElem? (i := 1) rfl)) all0))), Fc13_0, Fc13_1, Fc13_2, Fc13_3, Fc13_4, Fc13_5, Fc13_6, Fc13_7⟩)
theorem d2_0 : decode prog_5_method_1_code 0 = .ok (.aload_n 0, 1) := by decide +kernel
theorem d2_1 : decode prog_5_method_1_code 1 = .ok (.invokespecial 3, 3) := by decide +kernel
theorem d2_4 : decode prog_5_method_1_code 4 = .ok (.aload_n 0, 1) := by decide +kernel
theorem d2_5 : decode prog_5_method_1_code 5 = .ok (.iconst 1, 1) := by decide +kernel
theorem d2_6 : decode prog_5_method_1_code 6 = .ok (.putfield 9, 3) := by decide +kernel
theorem d2_9 : decode prog_5_method_1_code 9 = .ok (.aload_n 0, 1) := by decide +kernel
theorem d2_10 : decode prog_5_method_1_code 10 = .ok (.aload_n 1, 1) := by decide +kernel
theorem d2_11 : decode prog_5_method_1_code 11 = .ok (.putfield 15, 3) := by decide +kernel
theorem d2_14 : decode prog_5_method_1_code 14 = .ok (.aload_n 0, 1) := by decide +kernel
theorem d2_15 : decode prog_5_method_1_code 15 = .ok (.aload_n 2, 1) := by decide +kernel
theorem d2_16 : decode prog_5_method_1_code 16 = .ok (.putfield 19, 3) := by decide +kernel
theorem d2_19 : decode prog_5_method_1_code 19 = .ok (.return_, 1) := by decide +kernel
def Q2n (Z : State) (o : Addr) (q0 : Addr) (h0 : Heap) (v : Option Value) (h : Heap) : Prop := v = none ∧ Keep h0 h [o] ∧ Exa Z h o "com/example/plumbline/plumbline/BaseEncoding$Reading" ∧ Fld Z h o "com/example/plumbline/plumbline/BaseEncoding$Reading" "inAlphabet" "Z" (.int (1 : Int32)) ∧ Fld Z h o "com/example/plumbline/plumbline/BaseEncoding$Reading" "encoding" "Lcom/example/plumbline/plumbline/BaseEncoding;" (.ref q0) ∧ Fld Z h o "com/example/plumbline/plumbline/BaseEncoding$Reading" "pending" "I" (.int (0 : Int32)) ∧ Fld Z h o "com/example/plumbline/plumbline/BaseEncoding$Reading" "held" "I" (.int (0 : Int32)) ∧ Fld Z h o "com/example/plumbline/plumbline/BaseEncoding$Reading" "bytes" "[B" .null ∧ Fld Z h o "com/example/plumbline/plumbline/BaseEncoding$Reading" "count" "I" (.int (0 : Int32))
abbrev GoB2n (l : Launch) (Z : State) (n0 : Nat) (Q : Option Value → Heap → Prop) := Go l Z ({ frames := 1, cells := 0, slots := 0, locals := 12 } : Room) (⟨"com/example/plumbline/plumbline/BaseEncoding$Reading", "<init>", "(Lcom/example/plumbline/plumbline/BaseEncoding;[B)V"⟩ : MethodName) prog_5_method_1_code 3 none n0 Q
theorem ef2n (m : MethodId) (o : Addr) (q0 : Addr) : entryFrame m #[(.ref o), (.ref q0), .null] 3 = mkF m 0 #[.val (.ref o), .val (.ref q0), .val .null] [] := by first | (simp [entryFrame, mkF, argsToLocals, Value.category]; done) | rfl
set_option maxRecDepth 65536 in
set_option maxHeartbeats 40000000 in
theorem rm2n (l : Launch) (Z : State) (a0 : Array Value) (hw : ∀ d ∈ tables_1, d.before a0 Z = true) (o : Addr) (q0 : Addr) (h0 : Heap) (n0 : Nat) (Z0 : n0 ≤ h0.size) (g_o : n0 ≤ o) (E_o : Exa Z h0 o "com/example/plumbline/plumbline/BaseEncoding$Reading") (F_al : Fld Z h0 o "com/example/plumbline/plumbline/BaseEncoding$Reading" "inAlphabet" "Z" (.int (0 : Int32))) (F_enc : Fld Z h0 o "com/example/plumbline/plumbline/BaseEncoding$Reading" "encoding" "Lcom/example/plumbline/plumbline/BaseEncoding;" .null) (F_by : Fld Z h0 o "com/example/plumbline/plumbline/BaseEncoding$Reading" "bytes" "[B" .null) (F_pending : Fld Z h0 o "com/example/plumbline/plumbline/BaseEncoding$Reading" "pending" "I" (.int (0 : Int32))) (F_held : Fld Z h0 o "com/example/plumbline/plumbline/BaseEncoding$Reading" "held" "I" (.int (0 : Int32))) (F_count : Fld Z h0 o "com/example/plumbline/plumbline/BaseEncoding$Reading" "count" "I" (.int (0 : Int32))) :
    Con l Z ({ frames := 1, cells := 0, slots := 0, locals := 12 } : Room) (⟨"com/example/plumbline/plumbline/BaseEncoding$Reading", "<init>", "(Lcom/example/plumbline/plumbline/BaseEncoding;[B)V"⟩ : MethodName) prog_5_method_1_code 3 none n0 #[(.ref o), (.ref q0), .null] h0 (Q2n Z o q0 h0) := by
  refine OwnW.Con.of (by first | decide +kernel | exact plainFor_of_name (by simp [plainName, overriddenIn])) (fun m => ef2n m o q0) ?_
  show GoB2n l Z n0 (Q2n Z o q0 h0) h0 0 0 0 #[.val (.ref o), .val (.ref q0), .val .null] []
  refine OwnW.aloadN (pc' := 1) d2_0 rfl (rfl) rfl ?_
  refine OwnW.initO (a0 := a0) (pc' := 4) (W := 0) d2_1 (hw _ (List.mem_of_getElem? (i := 15) rfl)) (hw _ (List.mem_of_getElem? (i := 16) rfl)) (hw _ (List.mem_of_getElem? (i := 17) rfl)) rfl (by decide) (Nat.le_of_ble_eq_true rfl) (by decide) rfl ?_
  refine OwnW.aloadN (pc' := 5) d2_4 rfl (rfl) rfl ?_
  refine OwnW.iconst (pc' := 6) (v := (1 : Int32)) d2_5 rfl rfl ?_
  refine OwnW.putFN (a0 := a0) (pc' := 9) (v' := (.int (1 : Int32))) d2_6 (hw _ (List.mem_of_getElem? (i := 18) rfl)) Via.refl F_al E_o (Or.inl (hw _ (List.mem_of_getElem? (i := 19) rfl))) (hw _ (List.mem_of_getElem? (i := 10) rfl)) (ty := .boolean) (by decide) rfl (by decide) g_o rfl ?_
  intro h1 W1
  have sz2 : n0 ≤ h1.size := (by rw [W1.size]; exact Z0)
  have F3 := F_al.same W1
  refine OwnW.aloadN (pc' := 10) d2_9 rfl (rfl) rfl ?_
  refine OwnW.aloadN (pc' := 11) d2_10 rfl (rfl) rfl ?_
  have F5 := (F_enc.other W1 (Or.inr (slot_ne (a0 := a0) (C := "com/example/plumbline/plumbline/BaseEncoding$Reading") (Or.inr (hw _ (List.mem_of_getElem? (i := 21) rfl))) (Or.inl (hw _ (List.mem_of_getElem? (i := 19) rfl))) (by decide) (t := (.object "com/example/plumbline/plumbline/BaseEncoding")) (t' := .boolean) (by decide) (by decide))))
  have F6 := (E_o.wr W1)
  refine OwnW.putF (a0 := a0) (pc' := 14) d2_11 (host := "") (Or.inl (hw _ (List.mem_of_getElem? (i := 20) rfl))) Via.refl F5 F6 (Or.inr ⟨(hw _ (List.mem_of_getElem? (i := 21) rfl)), rfl, rfl⟩) (hw _ (List.mem_of_getElem? (i := 10) rfl)) (ty := (.object "com/example/plumbline/plumbline/BaseEncoding")) (by decide) rfl rfl g_o rfl ?_
  intro h4 W4
  have sz7 : n0 ≤ h4.size := (by rw [W4.size]; exact sz2)
  have F8 := F5.same W4
  refine OwnW.aloadN (pc' := 15) d2_14 rfl (rfl) rfl ?_
  refine OwnW.aloadN (pc' := 16) d2_15 rfl (rfl) rfl ?_
  have F10 := ((F_by.other W1 (Or.inr (slot_ne (a0 := a0) (C := "com/example/plumbline/plumbline/BaseEncoding$Reading") (Or.inr (hw _ (List.mem_of_getElem? (i := 23) rfl))) (Or.inl (hw _ (List.mem_of_getElem? (i := 19) rfl))) (by decide) (t := (.array .byte)) (t' := .boolean) (by decide) (by decide)))).other W4 (Or.inr (slot_ne (a0 := a0) (C := "com/example/plumbline/plumbline/BaseEncoding$Reading") (Or.inr (hw _ (List.mem_of_getElem? (i := 23) rfl))) (Or.inr (hw _ (List.mem_of_getElem? (i := 21) rfl))) (by decide) (t := (.array .byte)) (t' := (.object "com/example/plumbline/plumbline/BaseEncoding")) (by decide) (by decide))))
  have F11 := (F6.wr W4)
  refine OwnW.putF (a0 := a0) (pc' := 19) d2_16 (host := "") (Or.inl (hw _ (List.mem_of_getElem? (i := 22) rfl))) Via.refl F10 F11 (Or.inr ⟨(hw _ (List.mem_of_getElem? (i := 23) rfl)), rfl, rfl⟩) (hw _ (List.mem_of_getElem? (i := 10) rfl)) (ty := (.array .byte)) (by decide) rfl rfl g_o rfl ?_
  intro h9 W9
  have sz12 : n0 ≤ h9.size := (by rw [W9.size]; exact sz7)
  have F13 := F10.same W9
  exact OwnW.ret0 d2_19 rfl (by decide) (by decide) (⟨rfl, ((((Keep.refl h0 [o]).wr W1 (Or.inl (List.mem_of_getElem? (i := 0) rfl))).wr W4 (Or.inl (List.mem_of_getElem? (i := 0) rfl))).wr W9 (Or.inl (List.mem_of_getElem? (i := 0) rfl))), (F11.wr W9), ((F3.other W4 (Or.inr (slot_ne (a0 := a0) (C := "com/example/plumbline/plumbline/BaseEncoding$Reading") (Or.inl (hw _ (List.mem_of_getElem? (i := 19) rfl))) (Or.inr (hw _ (List.mem_of_getElem? (i := 21) rfl))) (by decide) (t := .boolean) (t' := (.object "com/example/plumbline/plumbline/BaseEncoding")) (by decide) (by decide)))).other W9 (Or.inr (slot_ne (a0 := a0) (C := "com/example/plumbline/plumbline/BaseEncoding$Reading") (Or.inl (hw _ (List.mem_of_getElem? (i := 19) rfl))) (Or.inr (hw _ (List.mem_of_getElem? (i := 23) rfl))) (by decide) (t := .boolean) (t' := (.array .byte)) (by decide) (by decide)))), (F8.other W9 (Or.inr (slot_ne (a0 := a0) (C := "com/example/plumbline/plumbline/BaseEncoding$Reading") (Or.inr (hw _ (List.mem_of_getElem? (i := 21) rfl))) (Or.inr (hw _ (List.mem_of_getElem? (i := 23) rfl))) (by decide) (t := (.object "com/example/plumbline/plumbline/BaseEncoding")) (t' := (.array .byte)) (by decide) (by decide)))), (((F_pending.other W1 (Or.inr (slot_ne (a0 := a0) (C := "com/example/plumbline/plumbline/BaseEncoding$Reading") (Or.inl (hw _ (List.mem_of_getElem? (i := 112) rfl))) (Or.inl (hw _ (List.mem_of_getElem? (i := 19) rfl))) (by decide) (t := .int) (t' := .boolean) (by decide) (by decide)))).other W4 (Or.inr (slot_ne (a0 := a0) (C := "com/example/plumbline/plumbline/BaseEncoding$Reading") (Or.inl (hw _ (List.mem_of_getElem? (i := 112) rfl))) (Or.inr (hw _ (List.mem_of_getElem? (i := 21) rfl))) (by decide) (t := .int) (t' := (.object "com/example/plumbline/plumbline/BaseEncoding")) (by decide) (by decide)))).other W9 (Or.inr (slot_ne (a0 := a0) (C := "com/example/plumbline/plumbline/BaseEncoding$Reading") (Or.inl (hw _ (List.mem_of_getElem? (i := 112) rfl))) (Or.inr (hw _ (List.mem_of_getElem? (i := 23) rfl))) (by decide) (t := .int) (t' := (.array .byte)) (by decide) (by decide)))), (((F_held.other W1 (Or.inr (slot_ne (a0 := a0) (C := "com/example/plumbline/plumbline/BaseEncoding$Reading") (Or.inl (hw _ (List.mem_of_getElem? (i := 116) rfl))) (Or.inl (hw _ (List.mem_of_getElem? (i := 19) rfl))) (by decide) (t := .int) (t' := .boolean) (by decide) (by decide)))).other W4 (Or.inr (slot_ne (a0 := a0) (C := "com/example/plumbline/plumbline/BaseEncoding$Reading") (Or.inl (hw _ (List.mem_of_getElem? (i := 116) rfl))) (Or.inr (hw _ (List.mem_of_getElem? (i := 21) rfl))) (by decide) (t := .int) (t' := (.object "com/example/plumbline/plumbline/BaseEncoding")) (by decide) (by decide)))).other W9 (Or.inr (slot_ne (a0 := a0) (C := "com/example/plumbline/plumbline/BaseEncoding$Reading") (Or.inl (hw _ (List.mem_of_getElem? (i := 116) rfl))) (Or.inr (hw _ (List.mem_of_getElem? (i := 23) rfl))) (by decide) (t := .int) (t' := (.array .byte)) (by decide) (by decide)))), F13, (((F_count.other W1 (Or.inr (slot_ne (a0 := a0) (C := "com/example/plumbline/plumbline/BaseEncoding$Reading") (Or.inl (hw _ (List.mem_of_getElem? (i := 122) rfl))) (Or.inl (hw _ (List.mem_of_getElem? (i := 19) rfl))) (by decide) (t := .int) (t' := .boolean) (by decide) (by decide)))).other W4 (Or.inr (slot_ne (a0 := a0) (C := "com/example/plumbline/plumbline/BaseEncoding$Reading") (Or.inl (hw _ (List.mem_of_getElem? (i := 122) rfl))) (Or.inr (hw _ (List.mem_of_getElem? (i := 21) rfl))) (by decide) (t := .int) (t' := (.object "com/example/plumbline/plumbline/BaseEncoding")) (by decide) (by decide)))).other W9 (Or.inr (slot_ne (a0 := a0) (C := "com/example/plumbline/plumbline/BaseEncoding$Reading") (Or.inl (hw _ (List.mem_of_getElem? (i := 122) rfl))) (Or.inr (hw _ (List.mem_of_getElem? (i := 23) rfl))) (by decide) (t := .int) (t' := (.array .byte)) (by decide) (by decide))))⟩)
def Q2a (Z : State) (o : Addr) (q0 : Addr) (q1 : Addr) (h0 : Heap) (v : Option Value) (h : Heap) : Prop := v = none ∧ Keep h0 h [o] ∧ Exa Z h o "com/example/plumbline/plumbline/BaseEncoding$Reading" ∧ Fld Z h o "com/example/plumbline/plumbline/BaseEncoding$Reading" "inAlphabet" "Z" (.int (1 : Int32)) ∧ Fld Z h o "com/example/plumbline/plumbline/BaseEncoding$Reading" "encoding" "Lcom/example/plumbline/plumbline/BaseEncoding;" (.ref q0) ∧ Fld Z h o "com/example/plumbline/plumbline/BaseEncoding$Reading" "pending" "I" (.int (0 : Int32)) ∧ Fld Z h o "com/example/plumbline/plumbline/BaseEncoding$Reading" "held" "I" (.int (0 : Int32)) ∧ Fld Z h o "com/example/plumbline/plumbline/BaseEncoding$Reading" "bytes" "[B" (.ref q1) ∧ Fld Z h o "com/example/plumbline/plumbline/BaseEncoding$Reading" "count" "I" (.int (0 : Int32))
abbrev GoB2a (l : Launch) (Z : State) (n0 : Nat) (Q : Option Value → Heap → Prop) := Go l Z ({ frames := 1, cells := 0, slots := 0, locals := 12 } : Room) (⟨"com/example/plumbline/plumbline/BaseEncoding$Reading", "<init>", "(Lcom/example/plumbline/plumbline/BaseEncoding;[B)V"⟩ : MethodName) prog_5_method_1_code 3 none n0 Q
theorem ef2a (m : MethodId) (o : Addr) (q0 : Addr) (q1 : Addr) : entryFrame m #[(.ref o), (.ref q0), (.ref q1)] 3 = mkF m 0 #[.val (.ref o), .val (.ref q0), .val (.ref q1)] [] := by first | (simp [entryFrame, mkF, argsToLocals, Value.category]; done) | rfl
set_option maxRecDepth 65536 in
set_option maxHeartbeats 40000000 in
theorem rm2a (l : Launch) (Z : State) (a0 : Array Value) (hw : ∀ d ∈ tables_1, d.before a0 Z = true) (o : Addr) (q0 : Addr) (q1 : Addr) (h0 : Heap) (n0 : Nat) (Z0 : n0 ≤ h0.size) (g_o : n0 ≤ o) (E_o : Exa Z h0 o "com/example/plumbline/plumbline/BaseEncoding$Reading") (F_al : Fld Z h0 o "com/example/plumbline/plumbline/BaseEncoding$Reading" "inAlphabet" "Z" (.int (0 : Int32))) (F_enc : Fld Z h0 o "com/example/plumbline/plumbline/BaseEncoding$Reading" "encoding" "Lcom/example/plumbline/plumbline/BaseEncoding;" .null) (F_by : Fld Z h0 o "com/example/plumbline/plumbline/BaseEncoding$Reading" "bytes" "[B" .null) (F_pending : Fld Z h0 o "com/example/plumbline/plumbline/BaseEncoding$Reading" "pending" "I" (.int (0 : Int32))) (F_held : Fld Z h0 o "com/example/plumbline/plumbline/BaseEncoding$Reading" "held" "I" (.int (0 : Int32))) (F_count : Fld Z h0 o "com/example/plumbline/plumbline/BaseEncoding$Reading" "count" "I" (.int (0 : Int32))) :
    Con l Z ({ frames := 1, cells := 0, slots := 0, locals := 12 } : Room) (⟨"com/example/plumbline/plumbline/BaseEncoding$Reading", "<init>", "(Lcom/example/plumbline/plumbline/BaseEncoding;[B)V"⟩ : MethodName) prog_5_method_1_code 3 none n0 #[(.ref o), (.ref q0), (.ref q1)] h0 (Q2a Z o q0 q1 h0) := by
  refine OwnW.Con.of (by first | decide +kernel | exact plainFor_of_name (by simp [plainName, overriddenIn])) (fun m => ef2a m o q0 q1) ?_
  show GoB2a l Z n0 (Q2a Z o q0 q1 h0) h0 0 0 0 #[.val (.ref o), .val (.ref q0), .val (.ref q1)] []
  refine OwnW.aloadN (pc' := 1) d2_0 rfl (rfl) rfl ?_
  refine OwnW.initO (a0 := a0) (pc' := 4) (W := 0) d2_1 (hw _ (List.mem_of_getElem? (i := 15) rfl)) (hw _ (List.mem_of_getElem? (i := 16) rfl)) (hw _ (List.mem_of_getElem? (i := 17) rfl)) rfl (by decide) (Nat.le_of_ble_eq_true rfl) (by decide) rfl ?_
  refine OwnW.aloadN (pc' := 5) d2_4 rfl (rfl) rfl ?_
  refine OwnW.iconst (pc' := 6) (v := (1 : Int32)) d2_5 rfl rfl ?_
  refine OwnW.putFN (a0 := a0) (pc' := 9) (v' := (.int (1 : Int32))) d2_6 (hw _ (List.mem_of_getElem? (i := 18) rfl)) Via.refl F_al E_o (Or.inl (hw _ (List.mem_of_getElem? (i := 19) rfl))) (hw _ (List.mem_of_getElem? (i := 10) rfl)) (ty := .boolean) (by decide) rfl (by decide) g_o rfl ?_
  intro h1 W1
  have sz2 : n0 ≤ h1.size := (by rw [W1.size]; exact Z0)
  have F3 := F_al.same W1
  refine OwnW.aloadN (pc' := 10) d2_9 rfl (rfl) rfl ?_
  refine OwnW.aloadN (pc' := 11) d2_10 rfl (rfl) rfl ?_
  have F5 := (F_enc.other W1 (Or.inr (slot_ne (a0 := a0) (C := "com/example/plumbline/plumbline/BaseEncoding$Reading") (Or.inr (hw _ (List.mem_of_getElem? (i := 21) rfl))) (Or.inl (hw _ (List.mem_of_getElem? (i := 19) rfl))) (by decide) (t := (.object "com/example/plumbline/plumbline/BaseEncoding")) (t' := .boolean) (by decide) (by decide))))
  have F6 := (E_o.wr W1)
  refine OwnW.putF (a0 := a0) (pc' := 14) d2_11 (host := "") (Or.inl (hw _ (List.mem_of_getElem? (i := 20) rfl))) Via.refl F5 F6 (Or.inr ⟨(hw _ (List.mem_of_getElem? (i := 21) rfl)), rfl, rfl⟩) (hw _ (List.mem_of_getElem? (i := 10) rfl)) (ty := (.object "com/example/plumbline/plumbline/BaseEncoding")) (by decide) rfl rfl g_o rfl ?_
  intro h4 W4
  have sz7 : n0 ≤ h4.size := (by rw [W4.size]; exact sz2)
  have F8 := F5.same W4
  refine OwnW.aloadN (pc' := 15) d2_14 rfl (rfl) rfl ?_
  refine OwnW.aloadN (pc' := 16) d2_15 rfl (rfl) rfl ?_
  have F10 := ((F_by.other W1 (Or.inr (slot_ne (a0 := a0) (C := "com/example/plumbline/plumbline/BaseEncoding$Reading") (Or.inr (hw _ (List.mem_of_getElem? (i := 23) rfl))) (Or.inl (hw _ (List.mem_of_getElem? (i := 19) rfl))) (by decide) (t := (.array .byte)) (t' := .boolean) (by decide) (by decide)))).other W4 (Or.inr (slot_ne (a0 := a0) (C := "com/example/plumbline/plumbline/BaseEncoding$Reading") (Or.inr (hw _ (List.mem_of_getElem? (i := 23) rfl))) (Or.inr (hw _ (List.mem_of_getElem? (i := 21) rfl))) (by decide) (t := (.array .byte)) (t' := (.object "com/example/plumbline/plumbline/BaseEncoding")) (by decide) (by decide))))
  have F11 := (F6.wr W4)
  refine OwnW.putF (a0 := a0) (pc' := 19) d2_16 (host := "") (Or.inl (hw _ (List.mem_of_getElem? (i := 22) rfl))) Via.refl F10 F11 (Or.inr ⟨(hw _ (List.mem_of_getElem? (i := 23) rfl)), rfl, rfl⟩) (hw _ (List.mem_of_getElem? (i := 10) rfl)) (ty := (.array .byte)) (by decide) rfl rfl g_o rfl ?_
  intro h9 W9
  have sz12 : n0 ≤ h9.size := (by rw [W9.size]; exact sz7)
  have F13 := F10.same W9
  exact OwnW.ret0 d2_19 rfl (by decide) (by decide) (⟨rfl, ((((Keep.refl h0 [o]).wr W1 (Or.inl (List.mem_of_getElem? (i := 0) rfl))).wr W4 (Or.inl (List.mem_of_getElem? (i := 0) rfl))).wr W9 (Or.inl (List.mem_of_getElem? (i := 0) rfl))), (F11.wr W9), ((F3.other W4 (Or.inr (slot_ne (a0 := a0) (C := "com/example/plumbline/plumbline/BaseEncoding$Reading") (Or.inl (hw _ (List.mem_of_getElem? (i := 19) rfl))) (Or.inr (hw _ (List.mem_of_getElem? (i := 21) rfl))) (by decide) (t := .boolean) (t' := (.object "com/example/plumbline/plumbline/BaseEncoding")) (by decide) (by decide)))).other W9 (Or.inr (slot_ne (a0 := a0) (C := "com/example/plumbline/plumbline/BaseEncoding$Reading") (Or.inl (hw _ (List.mem_of_getElem? (i := 19) rfl))) (Or.inr (hw _ (List.mem_of_getElem? (i := 23) rfl))) (by decide) (t := .boolean) (t' := (.array .byte)) (by decide) (by decide)))), (F8.other W9 (Or.inr (slot_ne (a0 := a0) (C := "com/example/plumbline/plumbline/BaseEncoding$Reading") (Or.inr (hw _ (List.mem_of_getElem? (i := 21) rfl))) (Or.inr (hw _ (List.mem_of_getElem? (i := 23) rfl))) (by decide) (t := (.object "com/example/plumbline/plumbline/BaseEncoding")) (t' := (.array .byte)) (by decide) (by decide)))), (((F_pending.other W1 (Or.inr (slot_ne (a0 := a0) (C := "com/example/plumbline/plumbline/BaseEncoding$Reading") (Or.inl (hw _ (List.mem_of_getElem? (i := 112) rfl))) (Or.inl (hw _ (List.mem_of_getElem? (i := 19) rfl))) (by decide) (t := .int) (t' := .boolean) (by decide) (by decide)))).other W4 (Or.inr (slot_ne (a0 := a0) (C := "com/example/plumbline/plumbline/BaseEncoding$Reading") (Or.inl (hw _ (List.mem_of_getElem? (i := 112) rfl))) (Or.inr (hw _ (List.mem_of_getElem? (i := 21) rfl))) (by decide) (t := .int) (t' := (.object "com/example/plumbline/plumbline/BaseEncoding")) (by decide) (by decide)))).other W9 (Or.inr (slot_ne (a0 := a0) (C := "com/example/plumbline/plumbline/BaseEncoding$Reading") (Or.inl (hw _ (List.mem_of_getElem? (i := 112) rfl))) (Or.inr (hw _ (List.mem_of_getElem? (i := 23) rfl))) (by decide) (t := .int) (t' := (.array .byte)) (by decide) (by decide)))), (((F_held.other W1 (Or.inr (slot_ne (a0 := a0) (C := "com/example/plumbline/plumbline/BaseEncoding$Reading") (Or.inl (hw _ (List.mem_of_getElem? (i := 116) rfl))) (Or.inl (hw _ (List.mem_of_getElem? (i := 19) rfl))) (by decide) (t := .int) (t' := .boolean) (by decide) (by decide)))).other W4 (Or.inr (slot_ne (a0 := a0) (C := "com/example/plumbline/plumbline/BaseEncoding$Reading") (Or.inl (hw _ (List.mem_of_getElem? (i := 116) rfl))) (Or.inr (hw _ (List.mem_of_getElem? (i := 21) rfl))) (by decide) (t := .int) (t' := (.object "com/example/plumbline/plumbline/BaseEncoding")) (by decide) (by decide)))).other W9 (Or.inr (slot_ne (a0 := a0) (C := "com/example/plumbline/plumbline/BaseEncoding$Reading") (Or.inl (hw _ (List.mem_of_getElem? (i := 116) rfl))) (Or.inr (hw _ (List.mem_of_getElem? (i := 23) rfl))) (by decide) (t := .int) (t' := (.array .byte)) (by decide) (by decide)))), F13, (((F_count.other W1 (Or.inr (slot_ne (a0 := a0) (C := "com/example/plumbline/plumbline/BaseEncoding$Reading") (Or.inl (hw _ (List.mem_of_getElem? (i := 122) rfl))) (Or.inl (hw _ (List.mem_of_getElem? (i := 19) rfl))) (by decide) (t := .int) (t' := .boolean) (by decide) (by decide)))).other W4 (Or.inr (slot_ne (a0 := a0) (C := "com/example/plumbline/plumbline/BaseEncoding$Reading") (Or.inl (hw _ (List.mem_of_getElem? (i := 122) rfl))) (Or.inr (hw _ (List.mem_of_getElem? (i := 21) rfl))) (by decide) (t := .int) (t' := (.object "com/example/plumbline/plumbline/BaseEncoding")) (by decide) (by decide)))).other W9 (Or.inr (slot_ne (a0 := a0) (C := "com/example/plumbline/plumbline/BaseEncoding$Reading") (Or.inl (hw _ (List.mem_of_getElem? (i := 122) rfl))) (Or.inr (hw _ (List.mem_of_getElem? (i := 23) rfl))) (by decide) (t := .int) (t' := (.array .byte)) (by decide) (by decide))))⟩)
theorem d16_0 : decode prog_5_method_4_code 0 = .ok (.aload_n 0, 1) := by decide +kernel
theorem d16_1 : decode prog_5_method_4_code 1 = .ok (.getfield 9, 3) := by decide +kernel
theorem d16_4 : decode prog_5_method_4_code 4 = .ok (.ifCond .eq 28, 3) := by decide +kernel
theorem d16_7 : decode prog_5_method_4_code 7 = .ok (.aload_n 0, 1) := by decide +kernel
theorem d16_8 : decode prog_5_method_4_code 8 = .ok (.getfield 48, 3) := by decide +kernel
theorem d16_11 : decode prog_5_method_4_code 11 = .ok (.aload_n 0, 1) := by decide +kernel
theorem d16_12 : decode prog_5_method_4_code 12 = .ok (.getfield 15, 3) := by decide +kernel
theorem d16_15 : decode prog_5_method_4_code 15 = .ok (.getfield 45, 3) := by decide +kernel
theorem d16_18 : decode prog_5_method_4_code 18 = .ok (.if_icmp .ge 14, 3) := by decide +kernel
theorem d16_21 : decode prog_5_method_4_code 21 = .ok (.aload_n 0, 1) := by decide +kernel
theorem d16_22 : decode prog_5_method_4_code 22 = .ok (.getfield 41, 3) := by decide +kernel
theorem d16_25 : decode prog_5_method_4_code 25 = .ok (.ifCond .ne 7, 3) := by decide +kernel
theorem d16_28 : decode prog_5_method_4_code 28 = .ok (.iconst 1, 1) := by decide +kernel
theorem d16_29 : decode prog_5_method_4_code 29 = .ok (.goto 4, 3) := by decide +kernel
theorem d16_32 : decode prog_5_method_4_code 32 = .ok (.iconst 0, 1) := by decide +kernel
theorem d16_33 : decode prog_5_method_4_code 33 = .ok (.ireturn, 1) := by decide +kernel
def f16z (o : Addr) : Int32 := (0 : Int32)
abbrev GoB16z (l : Launch) (Z : State) (n0 : Nat) (Q : Option Value → Heap → Prop) := Go l Z ({ frames := 0, cells := 0, slots := 0, locals := 0 } : Room) (⟨"com/example/plumbline/plumbline/BaseEncoding$Reading", "isEncoding", "()Z"⟩ : MethodName) prog_5_method_4_code 1 (some .boolean) n0 Q
theorem ef16z (m : MethodId) (o : Addr) : entryFrame m #[(.ref o)] 1 = mkF m 0 #[.val (.ref o)] [] := by first | (simp [entryFrame, mkF, argsToLocals, Value.category]; done) | rfl
set_option maxRecDepth 65536 in
set_option maxHeartbeats 40000000 in
theorem rm16z (l : Launch) (Z : State) (a0 : Array Value) (hw : ∀ d ∈ tables_1, d.before a0 Z = true) (o : Addr) (h0 : Heap) (n0 : Nat) (F_al : Fld Z h0 o "com/example/plumbline/plumbline/BaseEncoding$Reading" "inAlphabet" "Z" (.int (0 : Int32))) :
    Con l Z ({ frames := 0, cells := 0, slots := 0, locals := 0 } : Room) (⟨"com/example/plumbline/plumbline/BaseEncoding$Reading", "isEncoding", "()Z"⟩ : MethodName) prog_5_method_4_code 1 (some .boolean) n0 #[(.ref o)] h0 (OwnW.Ret (some (.int (f16z o))) h0) := by
  refine OwnW.Con.of (by first | decide +kernel | exact plainFor_of_name (by simp [plainName, overriddenIn])) (fun m => ef16z m o) ?_
  show GoB16z l Z n0 (OwnW.Ret (some (.int (f16z o))) h0) h0 0 0 0 #[.val (.ref o)] []
  refine OwnW.aloadN (pc' := 1) d16_0 rfl (rfl) rfl ?_
  refine OwnW.getF (a0 := a0) (pc' := 4) d16_1 (host := "") (Or.inl (hw _ (List.mem_of_getElem? (i := 18) rfl))) Via.refl F_al rfl ?_
  refine OwnW.ifcY (pc' := 32) d16_4 ((if0 _ _).trans (teq (by decide)).1) (by decide) (by decide) ?_
  refine OwnW.iconst (pc' := 33) (v := (0 : Int32)) d16_32 rfl rfl ?_
  exact OwnW.retN (t := .boolean) d16_33 rfl (by simp) rfl (by decide) (by decide) (⟨by first | (simp only [f16z]; done) | (simp only [f16z]; rfl), rfl⟩)
def f16g (o : Addr) (e : Addr) (b : Int32) (P : Int32) (hd : Int32) : Int32 := (if hd < b then (if P = (0 : Int32) then (1 : Int32) else (0 : Int32)) else (0 : Int32))
abbrev GoB16g (l : Launch) (Z : State) (n0 : Nat) (Q : Option Value → Heap → Prop) := Go l Z ({ frames := 0, cells := 0, slots := 0, locals := 0 } : Room) (⟨"com/example/plumbline/plumbline/BaseEncoding$Reading", "isEncoding", "()Z"⟩ : MethodName) prog_5_method_4_code 1 (some .boolean) n0 Q
theorem ef16g (m : MethodId) (o : Addr) : entryFrame m #[(.ref o)] 1 = mkF m 0 #[.val (.ref o)] [] := by first | (simp [entryFrame, mkF, argsToLocals, Value.category]; done) | rfl
set_option maxRecDepth 65536 in
set_option maxHeartbeats 40000000 in
theorem rm16g (l : Launch) (Z : State) (a0 : Array Value) (hw : ∀ d ∈ tables_1, d.before a0 Z = true) (o : Addr) (e : Addr) (b : Int32) (P : Int32) (hd : Int32) (h0 : Heap) (n0 : Nat) (F_al : Fld Z h0 o "com/example/plumbline/plumbline/BaseEncoding$Reading" "inAlphabet" "Z" (.int (1 : Int32))) (F_enc : Fld Z h0 o "com/example/plumbline/plumbline/BaseEncoding$Reading" "encoding" "Lcom/example/plumbline/plumbline/BaseEncoding;" (.ref e)) (F_P : Fld Z h0 o "com/example/plumbline/plumbline/BaseEncoding$Reading" "pending" "I" (.int P)) (F_hd : Fld Z h0 o "com/example/plumbline/plumbline/BaseEncoding$Reading" "held" "I" (.int hd)) (F_b : Fld Z h0 e "com/example/plumbline/plumbline/BaseEncoding" "bits" "I" (.int b)) :
    Con l Z ({ frames := 0, cells := 0, slots := 0, locals := 0 } : Room) (⟨"com/example/plumbline/plumbline/BaseEncoding$Reading", "isEncoding", "()Z"⟩ : MethodName) prog_5_method_4_code 1 (some .boolean) n0 #[(.ref o)] h0 (OwnW.Ret (some (.int (f16g o e b P hd))) h0) := by
  refine OwnW.Con.of (by first | decide +kernel | exact plainFor_of_name (by simp [plainName, overriddenIn])) (fun m => ef16g m o) ?_
  show GoB16g l Z n0 (OwnW.Ret (some (.int (f16g o e b P hd))) h0) h0 0 0 0 #[.val (.ref o)] []
  refine OwnW.aloadN (pc' := 1) d16_0 rfl (rfl) rfl ?_
  refine OwnW.getF (a0 := a0) (pc' := 4) d16_1 (host := "") (Or.inl (hw _ (List.mem_of_getElem? (i := 18) rfl))) Via.refl F_al rfl ?_
  refine OwnW.ifcN (pc' := 7) d16_4 ((if0 _ _).trans (feq (by decide)).1) rfl ?_
  refine OwnW.aloadN (pc' := 8) d16_7 rfl (rfl) rfl ?_
  refine OwnW.getF (a0 := a0) (pc' := 11) d16_8 (host := "") (Or.inl (hw _ (List.mem_of_getElem? (i := 115) rfl))) Via.refl F_hd rfl ?_
  refine OwnW.aloadN (pc' := 12) d16_11 rfl (rfl) rfl ?_
  refine OwnW.getF (a0 := a0) (pc' := 15) d16_12 (host := "") (Or.inl (hw _ (List.mem_of_getElem? (i := 20) rfl))) Via.refl F_enc rfl ?_
  refine OwnW.getF (a0 := a0) (pc' := 18) d16_15 (Or.inr (hw _ (List.mem_of_getElem? (i := 113) rfl))) Via.refl F_b rfl ?_
  by_cases hc18 : hd < b
  ·
    refine OwnW.icmpN (pc' := 21) d16_18 (tlt hc18).2.1 rfl ?_
    refine OwnW.aloadN (pc' := 22) d16_21 rfl (rfl) rfl ?_
    refine OwnW.getF (a0 := a0) (pc' := 25) d16_22 (host := "") (Or.inl (hw _ (List.mem_of_getElem? (i := 111) rfl))) Via.refl F_P rfl ?_
    by_cases hc25 : P = (0 : Int32)
    ·
      refine OwnW.ifcN (pc' := 28) d16_25 ((if0 _ _).trans (teq hc25).2) rfl ?_
      refine OwnW.iconst (pc' := 29) (v := (1 : Int32)) d16_28 rfl rfl ?_
      refine OwnW.goto (pc' := 33) d16_29 (by decide) (by decide) ?_
      exact OwnW.retN (t := .boolean) d16_33 rfl (by simp) rfl (by decide) (by decide) (⟨by first | (simp only [f16g, if_pos hc18, if_pos hc25]; done) | (simp only [f16g, if_pos hc18, if_pos hc25]; rfl), rfl⟩)
    ·
      refine OwnW.ifcY (pc' := 32) d16_25 ((if0 _ _).trans (feq hc25).2) (by decide) (by decide) ?_
      refine OwnW.iconst (pc' := 33) (v := (0 : Int32)) d16_32 rfl rfl ?_
      exact OwnW.retN (t := .boolean) d16_33 rfl (by simp) rfl (by decide) (by decide) (⟨by first | (simp only [f16g, if_pos hc18, if_neg hc25]; done) | (simp only [f16g, if_pos hc18, if_neg hc25]; rfl), rfl⟩)
  ·
    refine OwnW.icmpY (pc' := 32) d16_18 (flt hc18).2.1 (by decide) (by decide) ?_
    refine OwnW.iconst (pc' := 33) (v := (0 : Int32)) d16_32 rfl rfl ?_
    exact OwnW.retN (t := .boolean) d16_33 rfl (by simp) rfl (by decide) (by decide) (⟨by first | (simp only [f16g, if_neg hc18]; done) | (simp only [f16g, if_neg hc18]; rfl), rfl⟩)
abbrev own_K (k b : Int32) : Prop := (k = 0 ∧ b = 4) ∨ (k = 1 ∧ b = 5) ∨ (k = 2 ∧ b = 6)
abbrev own_R (c : Int32) : Prop := ¬ c < (0 : Int32) ∧ ¬ (255 : Int32) < c
abbrev own_C (c0 c1 c2 c3 c4 c5 c6 c7 : Int32) : Prop := own_R c0 ∧ own_R c1 ∧ own_R c2 ∧ own_R c3 ∧ own_R c4 ∧ own_R c5 ∧ own_R c6 ∧ own_R c7
theorem own_c0 {c0 c1 c2 c3 c4 c5 c6 c7 : Int32} (hb : own_C c0 c1 c2 c3 c4 c5 c6 c7) : own_R c0 := hb.1
theorem own_c1 {c0 c1 c2 c3 c4 c5 c6 c7 : Int32} (hb : own_C c0 c1 c2 c3 c4 c5 c6 c7) : own_R c1 := hb.2.1
theorem own_c2 {c0 c1 c2 c3 c4 c5 c6 c7 : Int32} (hb : own_C c0 c1 c2 c3 c4 c5 c6 c7) : own_R c2 := hb.2.2.1
theorem own_c3 {c0 c1 c2 c3 c4 c5 c6 c7 : Int32} (hb : own_C c0 c1 c2 c3 c4 c5 c6 c7) : own_R c3 := hb.2.2.2.1
theorem own_c4 {c0 c1 c2 c3 c4 c5 c6 c7 : Int32} (hb : own_C c0 c1 c2 c3 c4 c5 c6 c7) : own_R c4 := hb.2.2.2.2.1
theorem own_c5 {c0 c1 c2 c3 c4 c5 c6 c7 : Int32} (hb : own_C c0 c1 c2 c3 c4 c5 c6 c7) : own_R c5 := hb.2.2.2.2.2.1
theorem own_c6 {c0 c1 c2 c3 c4 c5 c6 c7 : Int32} (hb : own_C c0 c1 c2 c3 c4 c5 c6 c7) : own_R c6 := hb.2.2.2.2.2.2.1
theorem own_c7 {c0 c1 c2 c3 c4 c5 c6 c7 : Int32} (hb : own_C c0 c1 c2 c3 c4 c5 c6 c7) : own_R c7 := hb.2.2.2.2.2.2.2
def own_at (i : Int) (c0 c1 c2 c3 c4 c5 c6 c7 : Int32) : Int32 := if i = 1 then c0 else if i = 2 then c1 else if i = 3 then c2 else if i = 4 then c3 else if i = 5 then c4 else if i = 6 then c5 else if i = 7 then c6 else c7
def own_I (i : Int) (k b n hd P c0 c1 c2 c3 c4 c5 c6 c7 : Int32) : Prop := (0 ≤ i ∧ i ≤ n.toInt ∧ n.toInt ≤ 8) ∧ hd.toInt = (i * b.toInt) % 8 ∧ (i = 0 → P = 0) ∧ (0 < i → hd < b → P = ((f18 k (own_at i c0 c1 c2 c3 c4 c5 c6 c7)) &&& (((1 : Int32) <<< (hd &&& 31)) - (1 : Int32)))) ∧ ((0 : Int) < i → ¬ (f18 k c0) < (0 : Int32)) ∧ ((1 : Int) < i → ¬ (f18 k c1) < (0 : Int32)) ∧ ((2 : Int) < i → ¬ (f18 k c2) < (0 : Int32)) ∧ ((3 : Int) < i → ¬ (f18 k c3) < (0 : Int32)) ∧ ((4 : Int) < i → ¬ (f18 k c4) < (0 : Int32)) ∧ ((5 : Int) < i → ¬ (f18 k c5) < (0 : Int32)) ∧ ((6 : Int) < i → ¬ (f18 k c6) < (0 : Int32)) ∧ ((7 : Int) < i → ¬ (f18 k c7) < (0 : Int32))
def own_Y (i : Int) (b cnt : Int32) : Prop := cnt.toInt = (i * b.toInt) / 8
abbrev own_B (k n c0 c1 c2 c3 c4 c5 c6 c7 : Int32) : Prop := ((0 : Int32) < n ∧ (f18 k c0) < (0 : Int32)) ∨ ((1 : Int32) < n ∧ (f18 k c1) < (0 : Int32)) ∨ ((2 : Int32) < n ∧ (f18 k c2) < (0 : Int32)) ∨ ((3 : Int32) < n ∧ (f18 k c3) < (0 : Int32)) ∨ ((4 : Int32) < n ∧ (f18 k c4) < (0 : Int32)) ∨ ((5 : Int32) < n ∧ (f18 k c5) < (0 : Int32)) ∨ ((6 : Int32) < n ∧ (f18 k c6) < (0 : Int32)) ∨ ((7 : Int32) < n ∧ (f18 k c7) < (0 : Int32))
theorem own_B0 {k n c0 c1 c2 c3 c4 c5 c6 c7 : Int32} (hv : (f18 k c0) < (0 : Int32)) (hn : (0 : Int32) < n) : own_B k n c0 c1 c2 c3 c4 c5 c6 c7 := Or.inl ⟨hn, hv⟩
theorem own_B1 {k n c0 c1 c2 c3 c4 c5 c6 c7 : Int32} (hv : (f18 k c1) < (0 : Int32)) (hn : (1 : Int32) < n) : own_B k n c0 c1 c2 c3 c4 c5 c6 c7 := Or.inr (Or.inl ⟨hn, hv⟩)
theorem own_B2 {k n c0 c1 c2 c3 c4 c5 c6 c7 : Int32} (hv : (f18 k c2) < (0 : Int32)) (hn : (2 : Int32) < n) : own_B k n c0 c1 c2 c3 c4 c5 c6 c7 := Or.inr (Or.inr (Or.inl ⟨hn, hv⟩))
theorem own_B3 {k n c0 c1 c2 c3 c4 c5 c6 c7 : Int32} (hv : (f18 k c3) < (0 : Int32)) (hn : (3 : Int32) < n) : own_B k n c0 c1 c2 c3 c4 c5 c6 c7 := Or.inr (Or.inr (Or.inr (Or.inl ⟨hn, hv⟩)))
theorem own_B4 {k n c0 c1 c2 c3 c4 c5 c6 c7 : Int32} (hv : (f18 k c4) < (0 : Int32)) (hn : (4 : Int32) < n) : own_B k n c0 c1 c2 c3 c4 c5 c6 c7 := Or.inr (Or.inr (Or.inr (Or.inr (Or.inl ⟨hn, hv⟩))))
theorem own_B5 {k n c0 c1 c2 c3 c4 c5 c6 c7 : Int32} (hv : (f18 k c5) < (0 : Int32)) (hn : (5 : Int32) < n) : own_B k n c0 c1 c2 c3 c4 c5 c6 c7 := Or.inr (Or.inr (Or.inr (Or.inr (Or.inr (Or.inl ⟨hn, hv⟩)))))
theorem own_B6 {k n c0 c1 c2 c3 c4 c5 c6 c7 : Int32} (hv : (f18 k c6) < (0 : Int32)) (hn : (6 : Int32) < n) : own_B k n c0 c1 c2 c3 c4 c5 c6 c7 := Or.inr (Or.inr (Or.inr (Or.inr (Or.inr (Or.inr (Or.inl ⟨hn, hv⟩))))))
theorem own_B7 {k n c0 c1 c2 c3 c4 c5 c6 c7 : Int32} (hv : (f18 k c7) < (0 : Int32)) (hn : (7 : Int32) < n) : own_B k n c0 c1 c2 c3 c4 c5 c6 c7 := Or.inr (Or.inr (Or.inr (Or.inr (Or.inr (Or.inr (Or.inr (⟨hn, hv⟩)))))))
theorem own_nlt {i j n : Int32} (h : ¬ i < n) (q : i ≤ j) : ¬ j < n := fun z => h (by
  rw [Int32.lt_iff_toInt_lt] at z ⊢
  rw [Int32.le_iff_toInt_le] at q
  omega)
theorem own_b {k b : Int32} (hk : own_K k b) : b.toInt = 4 ∨ b.toInt = 5 ∨ b.toInt = 6 := by
  rcases hk with ⟨-, rfl⟩ | ⟨-, rfl⟩ | ⟨-, rfl⟩
  · exact Or.inl (by decide)
  · exact Or.inr (Or.inl (by decide))
  · exact Or.inr (Or.inr (by decide))
theorem own_sum {k b hd : Int32} (hk : own_K k b) (h : 0 ≤ hd.toInt ∧ hd.toInt < 8) : (hd + b).toInt = hd.toInt + b.toInt := by
  have s := c_iadd hd b
  have r := rng32 (hd + b)
  rcases own_b hk with e | e | e <;> rw [e] at s ⊢ <;> omega
theorem own_hd8 {b hd : Int32} {i : Int} (a : hd.toInt = (i * b.toInt) % 8) : 0 ≤ hd.toInt ∧ hd.toInt < 8 := by
  rw [a]
  exact ⟨Int.emod_nonneg _ (by decide), Int.emod_lt_of_pos _ (by decide)⟩
theorem own_hds {k b hd : Int32} {i : Int} (hk : own_K k b) (a : hd.toInt = (i * b.toInt) % 8) (hlt : (hd + b) < (8 : Int32)) : (hd + b).toInt = ((i + 1) * b.toInt) % 8 ∧ ¬ (hd + b) < b := by
  have u := own_hd8 a
  have s := own_sum hk u
  have o8 : (8 : Int32).toInt = 8 := by decide
  rw [Int32.lt_iff_toInt_lt] at hlt ⊢
  rw [s] at hlt ⊢
  clear s
  rcases own_b hk with e | e | e <;> rw [e] at a hlt ⊢ <;> omega
theorem own_hdl {k b hd : Int32} {i : Int} (hk : own_K k b) (a : hd.toInt = (i * b.toInt) % 8) (hlt : ¬ (hd + b) < (8 : Int32)) : ((hd + b) - (8 : Int32)).toInt = ((i + 1) * b.toInt) % 8 := by
  have u := own_hd8 a
  have s := own_sum hk u
  have o8 : (8 : Int32).toInt = 8 := by decide
  have s3 : ((hd + b) - (8 : Int32)).toInt = hd.toInt + b.toInt - 8 := by
    have s2 := c_isub (hd + b) 8
    have r2 := rng32 ((hd + b) - 8)
    have v := own_b hk
    omega
  rw [Int32.lt_iff_toInt_lt] at hlt
  rw [s] at hlt
  rw [s3]
  clear s s3
  rcases own_b hk with e | e | e <;> rw [e] at a hlt ⊢ <;> omega
theorem own_bv (x v : BitVec 32) (s h : Nat) (hs : h ≤ s) (m : BitVec 32) (hm : m.toNat = 2 ^ h - 1) (hh : h ≤ 32) : ((x <<< s) ||| v) &&& m = v &&& m := by
  apply BitVec.eq_of_toNat_eq
  rw [BitVec.toNat_and, BitVec.toNat_and, BitVec.toNat_or, BitVec.toNat_shiftLeft, hm, Nat.and_two_pow_sub_one_eq_mod, Nat.and_two_pow_sub_one_eq_mod, Nat.or_mod_two_pow]
  have e : (x.toNat <<< s % 2 ^ 32) % 2 ^ h = 0 := by
    rw [Nat.mod_mod_of_dvd _ (Nat.pow_dvd_pow 2 hh), Nat.shiftLeft_eq]
    exact Nat.mod_eq_zero_of_dvd (Nat.dvd_trans (Nat.pow_dvd_pow 2 hs) (Nat.dvd_mul_left _ _))
  rw [e, Nat.zero_or]
theorem own_bits {k b : Int32} (P v g : Int32) (hk : own_K k b) (h0 : 0 ≤ g.toInt) (h1 : g < b) : (((P <<< (b &&& 31)) ||| v) &&& (((1 : Int32) <<< (g &&& 31)) - (1 : Int32))) = (v &&& (((1 : Int32) <<< (g &&& 31)) - (1 : Int32))) := by
  rw [Int32.lt_iff_toInt_lt] at h1
  have hg : g = 0 ∨ g = 1 ∨ g = 2 ∨ g = 3 ∨ g = 4 ∨ g = 5 := by
    have z : g.toInt = 0 ∨ g.toInt = 1 ∨ g.toInt = 2 ∨ g.toInt = 3 ∨ g.toInt = 4 ∨ g.toInt = 5 := by rcases own_b hk with e | e | e <;> omega
    simpa [← Int32.toInt_inj] using z
  apply Int32.toBitVec_inj.mp
  rcases hk with ⟨-, rfl⟩ | ⟨-, rfl⟩ | ⟨-, rfl⟩ <;> rcases hg with rfl | rfl | rfl | rfl | rfl | rfl
  · exact own_bv P.toBitVec v.toBitVec 4 0 (by decide) (((1 : Int32) <<< ((0 : Int32) &&& 31)) - (1 : Int32)).toBitVec (by decide) (by decide)
  · exact own_bv P.toBitVec v.toBitVec 4 1 (by decide) (((1 : Int32) <<< ((1 : Int32) &&& 31)) - (1 : Int32)).toBitVec (by decide) (by decide)
  · exact own_bv P.toBitVec v.toBitVec 4 2 (by decide) (((1 : Int32) <<< ((2 : Int32) &&& 31)) - (1 : Int32)).toBitVec (by decide) (by decide)
  · exact own_bv P.toBitVec v.toBitVec 4 3 (by decide) (((1 : Int32) <<< ((3 : Int32) &&& 31)) - (1 : Int32)).toBitVec (by decide) (by decide)
  · exact absurd h1 (by decide)
  · exact absurd h1 (by decide)
  · exact own_bv P.toBitVec v.toBitVec 5 0 (by decide) (((1 : Int32) <<< ((0 : Int32) &&& 31)) - (1 : Int32)).toBitVec (by decide) (by decide)
  · exact own_bv P.toBitVec v.toBitVec 5 1 (by decide) (((1 : Int32) <<< ((1 : Int32) &&& 31)) - (1 : Int32)).toBitVec (by decide) (by decide)
  · exact own_bv P.toBitVec v.toBitVec 5 2 (by decide) (((1 : Int32) <<< ((2 : Int32) &&& 31)) - (1 : Int32)).toBitVec (by decide) (by decide)
  · exact own_bv P.toBitVec v.toBitVec 5 3 (by decide) (((1 : Int32) <<< ((3 : Int32) &&& 31)) - (1 : Int32)).toBitVec (by decide) (by decide)
  · exact own_bv P.toBitVec v.toBitVec 5 4 (by decide) (((1 : Int32) <<< ((4 : Int32) &&& 31)) - (1 : Int32)).toBitVec (by decide) (by decide)
  · exact absurd h1 (by decide)
  · exact own_bv P.toBitVec v.toBitVec 6 0 (by decide) (((1 : Int32) <<< ((0 : Int32) &&& 31)) - (1 : Int32)).toBitVec (by decide) (by decide)
  · exact own_bv P.toBitVec v.toBitVec 6 1 (by decide) (((1 : Int32) <<< ((1 : Int32) &&& 31)) - (1 : Int32)).toBitVec (by decide) (by decide)
  · exact own_bv P.toBitVec v.toBitVec 6 2 (by decide) (((1 : Int32) <<< ((2 : Int32) &&& 31)) - (1 : Int32)).toBitVec (by decide) (by decide)
  · exact own_bv P.toBitVec v.toBitVec 6 3 (by decide) (((1 : Int32) <<< ((3 : Int32) &&& 31)) - (1 : Int32)).toBitVec (by decide) (by decide)
  · exact own_bv P.toBitVec v.toBitVec 6 4 (by decide) (((1 : Int32) <<< ((4 : Int32) &&& 31)) - (1 : Int32)).toBitVec (by decide) (by decide)
  · exact own_bv P.toBitVec v.toBitVec 6 5 (by decide) (((1 : Int32) <<< ((5 : Int32) &&& 31)) - (1 : Int32)).toBitVec (by decide) (by decide)
theorem own_Is0 {k b n hd P c0 c1 c2 c3 c4 c5 c6 c7 : Int32} (hk : own_K k b) (hI : own_I 0 k b n hd P c0 c1 c2 c3 c4 c5 c6 c7) (hv : ¬ (f18 k c0) < (0 : Int32)) (hlt : (hd + b) < (8 : Int32)) (hn : (0 : Int32) < n) : own_I 1 k b n (hd + b) ((P <<< (b &&& 31)) ||| (f18 k c0)) c0 c1 c2 c3 c4 c5 c6 c7 := by
  obtain ⟨⟨-, a1, a2⟩, a3, -, -, g0, g1, g2, g3, g4, g5, g6, g7⟩ := hI
  have hn' := Int32.lt_iff_toInt_lt.mp hn
  have o1 : (0 : Int32).toInt = 0 := by decide
  have w := own_hds hk a3 hlt
  exact ⟨⟨by decide, by omega, a2⟩, w.1, fun q => absurd q (by decide), fun _ q => absurd q w.2, fun _ => hv, fun q => absurd q (by decide), fun q => absurd q (by decide), fun q => absurd q (by decide), fun q => absurd q (by decide), fun q => absurd q (by decide), fun q => absurd q (by decide), fun q => absurd q (by decide)⟩
theorem own_Il0 {k b n hd P c0 c1 c2 c3 c4 c5 c6 c7 : Int32} (hk : own_K k b) (hI : own_I 0 k b n hd P c0 c1 c2 c3 c4 c5 c6 c7) (hv : ¬ (f18 k c0) < (0 : Int32)) (hlt : ¬ (hd + b) < (8 : Int32)) (hn : (0 : Int32) < n) : own_I 1 k b n ((hd + b) - (8 : Int32)) (((P <<< (b &&& 31)) ||| (f18 k c0)) &&& (((1 : Int32) <<< (((hd + b) - (8 : Int32)) &&& 31)) - (1 : Int32))) c0 c1 c2 c3 c4 c5 c6 c7 := by
  obtain ⟨⟨-, a1, a2⟩, a3, -, -, g0, g1, g2, g3, g4, g5, g6, g7⟩ := hI
  have hn' := Int32.lt_iff_toInt_lt.mp hn
  have o1 : (0 : Int32).toInt = 0 := by decide
  have w := own_hdl hk a3 hlt
  have p : 0 ≤ ((hd + b) - (8 : Int32)).toInt := by rw [w]; exact Int.emod_nonneg _ (by decide)
  exact ⟨⟨by decide, by omega, a2⟩, w, fun q => absurd q (by decide), fun _ q => own_bits P (f18 k c0) _ hk p q, fun _ => hv, fun q => absurd q (by decide), fun q => absurd q (by decide), fun q => absurd q (by decide), fun q => absurd q (by decide), fun q => absurd q (by decide), fun q => absurd q (by decide), fun q => absurd q (by decide)⟩
theorem own_Is1 {k b n hd P c0 c1 c2 c3 c4 c5 c6 c7 : Int32} (hk : own_K k b) (hI : own_I 1 k b n hd P c0 c1 c2 c3 c4 c5 c6 c7) (hv : ¬ (f18 k c1) < (0 : Int32)) (hlt : (hd + b) < (8 : Int32)) (hn : (1 : Int32) < n) : own_I 2 k b n (hd + b) ((P <<< (b &&& 31)) ||| (f18 k c1)) c0 c1 c2 c3 c4 c5 c6 c7 := by
  obtain ⟨⟨-, a1, a2⟩, a3, -, -, g0, g1, g2, g3, g4, g5, g6, g7⟩ := hI
  have hn' := Int32.lt_iff_toInt_lt.mp hn
  have o1 : (1 : Int32).toInt = 1 := by decide
  have w := own_hds hk a3 hlt
  exact ⟨⟨by decide, by omega, a2⟩, w.1, fun q => absurd q (by decide), fun _ q => absurd q w.2, fun _ => g0 (by decide), fun _ => hv, fun q => absurd q (by decide), fun q => absurd q (by decide), fun q => absurd q (by decide), fun q => absurd q (by decide), fun q => absurd q (by decide), fun q => absurd q (by decide)⟩
theorem own_Il1 {k b n hd P c0 c1 c2 c3 c4 c5 c6 c7 : Int32} (hk : own_K k b) (hI : own_I 1 k b n hd P c0 c1 c2 c3 c4 c5 c6 c7) (hv : ¬ (f18 k c1) < (0 : Int32)) (hlt : ¬ (hd + b) < (8 : Int32)) (hn : (1 : Int32) < n) : own_I 2 k b n ((hd + b) - (8 : Int32)) (((P <<< (b &&& 31)) ||| (f18 k c1)) &&& (((1 : Int32) <<< (((hd + b) - (8 : Int32)) &&& 31)) - (1 : Int32))) c0 c1 c2 c3 c4 c5 c6 c7 := by
  obtain ⟨⟨-, a1, a2⟩, a3, -, -, g0, g1, g2, g3, g4, g5, g6, g7⟩ := hI
  have hn' := Int32.lt_iff_toInt_lt.mp hn
  have o1 : (1 : Int32).toInt = 1 := by decide
  have w := own_hdl hk a3 hlt
  have p : 0 ≤ ((hd + b) - (8 : Int32)).toInt := by rw [w]; exact Int.emod_nonneg _ (by decide)
  exact ⟨⟨by decide, by omega, a2⟩, w, fun q => absurd q (by decide), fun _ q => own_bits P (f18 k c1) _ hk p q, fun _ => g0 (by decide), fun _ => hv, fun q => absurd q (by decide), fun q => absurd q (by decide), fun q => absurd q (by decide), fun q => absurd q (by decide), fun q => absurd q (by decide), fun q => absurd q (by decide)⟩
theorem own_Is2 {k b n hd P c0 c1 c2 c3 c4 c5 c6 c7 : Int32} (hk : own_K k b) (hI : own_I 2 k b n hd P c0 c1 c2 c3 c4 c5 c6 c7) (hv : ¬ (f18 k c2) < (0 : Int32)) (hlt : (hd + b) < (8 : Int32)) (hn : (2 : Int32) < n) : own_I 3 k b n (hd + b) ((P <<< (b &&& 31)) ||| (f18 k c2)) c0 c1 c2 c3 c4 c5 c6 c7 := by
  obtain ⟨⟨-, a1, a2⟩, a3, -, -, g0, g1, g2, g3, g4, g5, g6, g7⟩ := hI
  have hn' := Int32.lt_iff_toInt_lt.mp hn
  have o1 : (2 : Int32).toInt = 2 := by decide
  have w := own_hds hk a3 hlt
  exact ⟨⟨by decide, by omega, a2⟩, w.1, fun q => absurd q (by decide), fun _ q => absurd q w.2, fun _ => g0 (by decide), fun _ => g1 (by decide), fun _ => hv, fun q => absurd q (by decide), fun q => absurd q (by decide), fun q => absurd q (by decide), fun q => absurd q (by decide), fun q => absurd q (by decide)⟩
theorem own_Il2 {k b n hd P c0 c1 c2 c3 c4 c5 c6 c7 : Int32} (hk : own_K k b) (hI : own_I 2 k b n hd P c0 c1 c2 c3 c4 c5 c6 c7) (hv : ¬ (f18 k c2) < (0 : Int32)) (hlt : ¬ (hd + b) < (8 : Int32)) (hn : (2 : Int32) < n) : own_I 3 k b n ((hd + b) - (8 : Int32)) (((P <<< (b &&& 31)) ||| (f18 k c2)) &&& (((1 : Int32) <<< (((hd + b) - (8 : Int32)) &&& 31)) - (1 : Int32))) c0 c1 c2 c3 c4 c5 c6 c7 := by
  obtain ⟨⟨-, a1, a2⟩, a3, -, -, g0, g1, g2, g3, g4, g5, g6, g7⟩ := hI
  have hn' := Int32.lt_iff_toInt_lt.mp hn
  have o1 : (2 : Int32).toInt = 2 := by decide
  have w := own_hdl hk a3 hlt
  have p : 0 ≤ ((hd + b) - (8 : Int32)).toInt := by rw [w]; exact Int.emod_nonneg _ (by decide)
  exact ⟨⟨by decide, by omega, a2⟩, w, fun q => absurd q (by decide), fun _ q => own_bits P (f18 k c2) _ hk p q, fun _ => g0 (by decide), fun _ => g1 (by decide), fun _ => hv, fun q => absurd q (by decide), fun q => absurd q (by decide), fun q => absurd q (by decide), fun q => absurd q (by decide), fun q => absurd q (by decide)⟩
theorem own_Is3 {k b n hd P c0 c1 c2 c3 c4 c5 c6 c7 : Int32} (hk : own_K k b) (hI : own_I 3 k b n hd P c0 c1 c2 c3 c4 c5 c6 c7) (hv : ¬ (f18 k c3) < (0 : Int32)) (hlt : (hd + b) < (8 : Int32)) (hn : (3 : Int32) < n) : own_I 4 k b n (hd + b) ((P <<< (b &&& 31)) ||| (f18 k c3)) c0 c1 c2 c3 c4 c5 c6 c7 := by
  obtain ⟨⟨-, a1, a2⟩, a3, -, -, g0, g1, g2, g3, g4, g5, g6, g7⟩ := hI
  have hn' := Int32.lt_iff_toInt_lt.mp hn
  have o1 : (3 : Int32).toInt = 3 := by decide
  have w := own_hds hk a3 hlt
  exact ⟨⟨by decide, by omega, a2⟩, w.1, fun q => absurd q (by decide), fun _ q => absurd q w.2, fun _ => g0 (by decide), fun _ => g1 (by decide), fun _ => g2 (by decide), fun _ => hv, fun q => absurd q (by decide), fun q => absurd q (by decide), fun q => absurd q (by decide), fun q => absurd q (by decide)⟩
theorem own_Il3 {k b n hd P c0 c1 c2 c3 c4 c5 c6 c7 : Int32} (hk : own_K k b) (hI : own_I 3 k b n hd P c0 c1 c2 c3 c4 c5 c6 c7) (hv : ¬ (f18 k c3) < (0 : Int32)) (hlt : ¬ (hd + b) < (8 : Int32)) (hn : (3 : Int32) < n) : own_I 4 k b n ((hd + b) - (8 : Int32)) (((P <<< (b &&& 31)) ||| (f18 k c3)) &&& (((1 : Int32) <<< (((hd + b) - (8 : Int32)) &&& 31)) - (1 : Int32))) c0 c1 c2 c3 c4 c5 c6 c7 := by
  obtain ⟨⟨-, a1, a2⟩, a3, -, -, g0, g1, g2, g3, g4, g5, g6, g7⟩ := hI
  have hn' := Int32.lt_iff_toInt_lt.mp hn
  have o1 : (3 : Int32).toInt = 3 := by decide
  have w := own_hdl hk a3 hlt
  have p : 0 ≤ ((hd + b) - (8 : Int32)).toInt := by rw [w]; exact Int.emod_nonneg _ (by decide)
  exact ⟨⟨by decide, by omega, a2⟩, w, fun q => absurd q (by decide), fun _ q => own_bits P (f18 k c3) _ hk p q, fun _ => g0 (by decide), fun _ => g1 (by decide), fun _ => g2 (by decide), fun _ => hv, fun q => absurd q (by decide), fun q => absurd q (by decide), fun q => absurd q (by decide), fun q => absurd q (by decide)⟩
theorem own_Is4 {k b n hd P c0 c1 c2 c3 c4 c5 c6 c7 : Int32} (hk : own_K k b) (hI : own_I 4 k b n hd P c0 c1 c2 c3 c4 c5 c6 c7) (hv : ¬ (f18 k c4) < (0 : Int32)) (hlt : (hd + b) < (8 : Int32)) (hn : (4 : Int32) < n) : own_I 5 k b n (hd + b) ((P <<< (b &&& 31)) ||| (f18 k c4)) c0 c1 c2 c3 c4 c5 c6 c7 := by
  obtain ⟨⟨-, a1, a2⟩, a3, -, -, g0, g1, g2, g3, g4, g5, g6, g7⟩ := hI
  have hn' := Int32.lt_iff_toInt_lt.mp hn
  have o1 : (4 : Int32).toInt = 4 := by decide
  have w := own_hds hk a3 hlt
  exact ⟨⟨by decide, by omega, a2⟩, w.1, fun q => absurd q (by decide), fun _ q => absurd q w.2, fun _ => g0 (by decide), fun _ => g1 (by decide), fun _ => g2 (by decide), fun _ => g3 (by decide), fun _ => hv, fun q => absurd q (by decide), fun q => absurd q (by decide), fun q => absurd q (by decide)⟩
theorem own_Il4 {k b n hd P c0 c1 c2 c3 c4 c5 c6 c7 : Int32} (hk : own_K k b) (hI : own_I 4 k b n hd P c0 c1 c2 c3 c4 c5 c6 c7) (hv : ¬ (f18 k c4) < (0 : Int32)) (hlt : ¬ (hd + b) < (8 : Int32)) (hn : (4 : Int32) < n) : own_I 5 k b n ((hd + b) - (8 : Int32)) (((P <<< (b &&& 31)) ||| (f18 k c4)) &&& (((1 : Int32) <<< (((hd + b) - (8 : Int32)) &&& 31)) - (1 : Int32))) c0 c1 c2 c3 c4 c5 c6 c7 := by
  obtain ⟨⟨-, a1, a2⟩, a3, -, -, g0, g1, g2, g3, g4, g5, g6, g7⟩ := hI
  have hn' := Int32.lt_iff_toInt_lt.mp hn
  have o1 : (4 : Int32).toInt = 4 := by decide
  have w := own_hdl hk a3 hlt
  have p : 0 ≤ ((hd + b) - (8 : Int32)).toInt := by rw [w]; exact Int.emod_nonneg _ (by decide)
  exact ⟨⟨by decide, by omega, a2⟩, w, fun q => absurd q (by decide), fun _ q => own_bits P (f18 k c4) _ hk p q, fun _ => g0 (by decide), fun _ => g1 (by decide), fun _ => g2 (by decide), fun _ => g3 (by decide), fun _ => hv, fun q => absurd q (by decide), fun q => absurd q (by decide), fun q => absurd q (by decide)⟩
theorem own_Is5 {k b n hd P c0 c1 c2 c3 c4 c5 c6 c7 : Int32} (hk : own_K k b) (hI : own_I 5 k b n hd P c0 c1 c2 c3 c4 c5 c6 c7) (hv : ¬ (f18 k c5) < (0 : Int32)) (hlt : (hd + b) < (8 : Int32)) (hn : (5 : Int32) < n) : own_I 6 k b n (hd + b) ((P <<< (b &&& 31)) ||| (f18 k c5)) c0 c1 c2 c3 c4 c5 c6 c7 := by
  obtain ⟨⟨-, a1, a2⟩, a3, -, -, g0, g1, g2, g3, g4, g5, g6, g7⟩ := hI
  have hn' := Int32.lt_iff_toInt_lt.mp hn
  have o1 : (5 : Int32).toInt = 5 := by decide
  have w := own_hds hk a3 hlt
  exact ⟨⟨by decide, by omega, a2⟩, w.1, fun q => absurd q (by decide), fun _ q => absurd q w.2, fun _ => g0 (by decide), fun _ => g1 (by decide), fun _ => g2 (by decide), fun _ => g3 (by decide), fun _ => g4 (by decide), fun _ => hv, fun q => absurd q (by decide), fun q => absurd q (by decide)⟩
theorem own_Il5 {k b n hd P c0 c1 c2 c3 c4 c5 c6 c7 : Int32} (hk : own_K k b) (hI : own_I 5 k b n hd P c0 c1 c2 c3 c4 c5 c6 c7) (hv : ¬ (f18 k c5) < (0 : Int32)) (hlt : ¬ (hd + b) < (8 : Int32)) (hn : (5 : Int32) < n) : own_I 6 k b n ((hd + b) - (8 : Int32)) (((P <<< (b &&& 31)) ||| (f18 k c5)) &&& (((1 : Int32) <<< (((hd + b) - (8 : Int32)) &&& 31)) - (1 : Int32))) c0 c1 c2 c3 c4 c5 c6 c7 := by
  obtain ⟨⟨-, a1, a2⟩, a3, -, -, g0, g1, g2, g3, g4, g5, g6, g7⟩ := hI
  have hn' := Int32.lt_iff_toInt_lt.mp hn
  have o1 : (5 : Int32).toInt = 5 := by decide
  have w := own_hdl hk a3 hlt
  have p : 0 ≤ ((hd + b) - (8 : Int32)).toInt := by rw [w]; exact Int.emod_nonneg _ (by decide)
  exact ⟨⟨by decide, by omega, a2⟩, w, fun q => absurd q (by decide), fun _ q => own_bits P (f18 k c5) _ hk p q, fun _ => g0 (by decide), fun _ => g1 (by decide), fun _ => g2 (by decide), fun _ => g3 (by decide), fun _ => g4 (by decide), fun _ => hv, fun q => absurd q (by decide), fun q => absurd q (by decide)⟩
theorem own_Is6 {k b n hd P c0 c1 c2 c3 c4 c5 c6 c7 : Int32} (hk : own_K k b) (hI : own_I 6 k b n hd P c0 c1 c2 c3 c4 c5 c6 c7) (hv : ¬ (f18 k c6) < (0 : Int32)) (hlt : (hd + b) < (8 : Int32)) (hn : (6 : Int32) < n) : own_I 7 k b n (hd + b) ((P <<< (b &&& 31)) ||| (f18 k c6)) c0 c1 c2 c3 c4 c5 c6 c7 := by
  obtain ⟨⟨-, a1, a2⟩, a3, -, -, g0, g1, g2, g3, g4, g5, g6, g7⟩ := hI
  have hn' := Int32.lt_iff_toInt_lt.mp hn
  have o1 : (6 : Int32).toInt = 6 := by decide
  have w := own_hds hk a3 hlt
  exact ⟨⟨by decide, by omega, a2⟩, w.1, fun q => absurd q (by decide), fun _ q => absurd q w.2, fun _ => g0 (by decide), fun _ => g1 (by decide), fun _ => g2 (by decide), fun _ => g3 (by decide), fun _ => g4 (by decide), fun _ => g5 (by decide), fun _ => hv, fun q => absurd q (by decide)⟩
theorem own_Il6 {k b n hd P c0 c1 c2 c3 c4 c5 c6 c7 : Int32} (hk : own_K k b) (hI : own_I 6 k b n hd P c0 c1 c2 c3 c4 c5 c6 c7) (hv : ¬ (f18 k c6) < (0 : Int32)) (hlt : ¬ (hd + b) < (8 : Int32)) (hn : (6 : Int32) < n) : own_I 7 k b n ((hd + b) - (8 : Int32)) (((P <<< (b &&& 31)) ||| (f18 k c6)) &&& (((1 : Int32) <<< (((hd + b) - (8 : Int32)) &&& 31)) - (1 : Int32))) c0 c1 c2 c3 c4 c5 c6 c7 := by
  obtain ⟨⟨-, a1, a2⟩, a3, -, -, g0, g1, g2, g3, g4, g5, g6, g7⟩ := hI
  have hn' := Int32.lt_iff_toInt_lt.mp hn
  have o1 : (6 : Int32).toInt = 6 := by decide
  have w := own_hdl hk a3 hlt
  have p : 0 ≤ ((hd + b) - (8 : Int32)).toInt := by rw [w]; exact Int.emod_nonneg _ (by decide)
  exact ⟨⟨by decide, by omega, a2⟩, w, fun q => absurd q (by decide), fun _ q => own_bits P (f18 k c6) _ hk p q, fun _ => g0 (by decide), fun _ => g1 (by decide), fun _ => g2 (by decide), fun _ => g3 (by decide), fun _ => g4 (by decide), fun _ => g5 (by decide), fun _ => hv, fun q => absurd q (by decide)⟩
theorem own_Is7 {k b n hd P c0 c1 c2 c3 c4 c5 c6 c7 : Int32} (hk : own_K k b) (hI : own_I 7 k b n hd P c0 c1 c2 c3 c4 c5 c6 c7) (hv : ¬ (f18 k c7) < (0 : Int32)) (hlt : (hd + b) < (8 : Int32)) (hn : (7 : Int32) < n) : own_I 8 k b n (hd + b) ((P <<< (b &&& 31)) ||| (f18 k c7)) c0 c1 c2 c3 c4 c5 c6 c7 := by
  obtain ⟨⟨-, a1, a2⟩, a3, -, -, g0, g1, g2, g3, g4, g5, g6, g7⟩ := hI
  have hn' := Int32.lt_iff_toInt_lt.mp hn
  have o1 : (7 : Int32).toInt = 7 := by decide
  have w := own_hds hk a3 hlt
  exact ⟨⟨by decide, by omega, a2⟩, w.1, fun q => absurd q (by decide), fun _ q => absurd q w.2, fun _ => g0 (by decide), fun _ => g1 (by decide), fun _ => g2 (by decide), fun _ => g3 (by decide), fun _ => g4 (by decide), fun _ => g5 (by decide), fun _ => g6 (by decide), fun _ => hv⟩
theorem own_Il7 {k b n hd P c0 c1 c2 c3 c4 c5 c6 c7 : Int32} (hk : own_K k b) (hI : own_I 7 k b n hd P c0 c1 c2 c3 c4 c5 c6 c7) (hv : ¬ (f18 k c7) < (0 : Int32)) (hlt : ¬ (hd + b) < (8 : Int32)) (hn : (7 : Int32) < n) : own_I 8 k b n ((hd + b) - (8 : Int32)) (((P <<< (b &&& 31)) ||| (f18 k c7)) &&& (((1 : Int32) <<< (((hd + b) - (8 : Int32)) &&& 31)) - (1 : Int32))) c0 c1 c2 c3 c4 c5 c6 c7 := by
  obtain ⟨⟨-, a1, a2⟩, a3, -, -, g0, g1, g2, g3, g4, g5, g6, g7⟩ := hI
  have hn' := Int32.lt_iff_toInt_lt.mp hn
  have o1 : (7 : Int32).toInt = 7 := by decide
  have w := own_hdl hk a3 hlt
  have p : 0 ≤ ((hd + b) - (8 : Int32)).toInt := by rw [w]; exact Int.emod_nonneg _ (by decide)
  exact ⟨⟨by decide, by omega, a2⟩, w, fun q => absurd q (by decide), fun _ q => own_bits P (f18 k c7) _ hk p q, fun _ => g0 (by decide), fun _ => g1 (by decide), fun _ => g2 (by decide), fun _ => g3 (by decide), fun _ => g4 (by decide), fun _ => g5 (by decide), fun _ => g6 (by decide), fun _ => hv⟩
theorem own_Iend {i : Int} {j k b n hd P c0 c1 c2 c3 c4 c5 c6 c7 : Int32} (hI : own_I i k b n hd P c0 c1 c2 c3 c4 c5 c6 c7) (h : ¬ j < n) (hj : j.toInt = i := by decide) : own_I n.toInt k b n hd P c0 c1 c2 c3 c4 c5 c6 c7 := by
  have a := hI.1
  rw [Int32.lt_iff_toInt_lt] at h
  have e : n.toInt = i := by omega
  rw [e]
  exact hI
theorem own_I8 {k b n hd P c0 c1 c2 c3 c4 c5 c6 c7 : Int32} (hI : own_I 8 k b n hd P c0 c1 c2 c3 c4 c5 c6 c7) : own_I n.toInt k b n hd P c0 c1 c2 c3 c4 c5 c6 c7 := by
  have a := hI.1
  have e : n.toInt = 8 := by omega
  rw [e]
  exact hI
theorem own_I0 {k b n p1 c0 c1 c2 c3 c4 c5 c6 c7 : Int32} (hn : n = ((p1 &&& (2147483647 : Int32)) % (9 : Int32))) : own_I 0 k b n (0 : Int32) (0 : Int32) c0 c1 c2 c3 c4 c5 c6 c7 := by
  have e := c_mask p1 2147483647 31 (by decide) (by decide)
  have r := (c_irem (p1 &&& 2147483647) 9 9 (by decide)).1 (by omega)
  rw [← hn] at r
  have z : (0 : Int32).toInt = 0 := by decide
  exact ⟨⟨by decide, by omega, by omega⟩, by rw [z]; omega, fun _ => rfl, fun q => absurd q (by decide), fun q => absurd q (by decide), fun q => absurd q (by decide), fun q => absurd q (by decide), fun q => absurd q (by decide), fun q => absurd q (by decide), fun q => absurd q (by decide), fun q => absurd q (by decide), fun q => absurd q (by decide)⟩
theorem own_Y0 {b : Int32} : own_Y 0 b (0 : Int32) := by
  have z : (0 : Int32).toInt = 0 := by decide
  simp only [own_Y, z]
  omega
theorem own_Ys {i : Int} {k b n hd P cnt c0 c1 c2 c3 c4 c5 c6 c7 : Int32} (hk : own_K k b) (hI : own_I i k b n hd P c0 c1 c2 c3 c4 c5 c6 c7) (hY : own_Y i b cnt) (hlt : (hd + b) < (8 : Int32)) (h0 : 0 ≤ i ∧ i ≤ 7 := by decide) : own_Y (i + 1) b cnt := by
  have a3 := hI.2.1
  have u := own_hd8 a3
  have s := own_sum hk u
  have o8 : (8 : Int32).toInt = 8 := by decide
  have o1 : (1 : Int32).toInt = 1 := by decide
  rw [Int32.lt_iff_toInt_lt, s, o8] at hlt
  clear s
  simp only [own_Y] at hY ⊢
  have v : 0 ≤ cnt.toInt ∧ cnt.toInt ≤ 8 := by rcases own_b hk with e | e | e <;> rw [e] at hY <;> omega
  have w : (cnt + 1).toInt = cnt.toInt + 1 := by
    have s1 := c_iadd cnt 1
    have r1 := rng32 (cnt + 1)
    omega
  rcases own_b hk with e | e | e <;> rw [e] at a3 hY hlt ⊢ <;> omega
theorem own_Yl {i : Int} {k b n hd P cnt c0 c1 c2 c3 c4 c5 c6 c7 : Int32} (hk : own_K k b) (hI : own_I i k b n hd P c0 c1 c2 c3 c4 c5 c6 c7) (hY : own_Y i b cnt) (hlt : ¬ (hd + b) < (8 : Int32)) (h0 : 0 ≤ i ∧ i ≤ 7 := by decide) : own_Y (i + 1) b (cnt + (1 : Int32)) := by
  have a3 := hI.2.1
  have u := own_hd8 a3
  have s := own_sum hk u
  have o8 : (8 : Int32).toInt = 8 := by decide
  have o1 : (1 : Int32).toInt = 1 := by decide
  rw [Int32.lt_iff_toInt_lt, s, o8] at hlt
  clear s
  simp only [own_Y] at hY ⊢
  have v : 0 ≤ cnt.toInt ∧ cnt.toInt ≤ 8 := by rcases own_b hk with e | e | e <;> rw [e] at hY <;> omega
  have w : (cnt + 1).toInt = cnt.toInt + 1 := by
    have s1 := c_iadd cnt 1
    have r1 := rng32 (cnt + 1)
    omega
  rcases own_b hk with e | e | e <;> rw [e] at a3 hY hlt ⊢ <;> omega
theorem own_cnt {i : Int} {k b cnt : Int32} (hk : own_K k b) (hY : own_Y i b cnt) (h0 : 0 ≤ i ∧ i ≤ 7 := by decide) : ¬ (cnt < 0 ∨ 6 ≤ cnt.toNatClampNeg) := by
  have z : (0 : Int32).toInt = 0 := by decide
  have e : 0 ≤ cnt.toInt ∧ cnt.toInt ≤ 5 := by
    simp only [own_Y] at hY
    rcases own_b hk with e | e | e <;> rw [e] at hY <;> omega
  have q : (cnt.toNatClampNeg : Int) = cnt.toInt := by simp only [Int32.toNatClampNeg]; omega
  rw [Int32.lt_iff_toInt_lt]
  omega
theorem own_ok1 {k c n j : Int32} (h : j < n → ¬ (f18 k c) < (0 : Int32)) : f17 k c n j = (1 : Int32) := by
  unfold f17
  split
  · rename_i q; exact if_neg (h q)
  · rfl
theorem own_ok0 {k c n j : Int32} (h : j < n ∧ (f18 k c) < (0 : Int32)) : f17 k c n j = (0 : Int32) := by
  unfold f17
  rw [if_pos h.1, if_pos h.2]
theorem own_lawZ {k b n cl wa wn c0 c1 c2 c3 c4 c5 c6 c7 : Int32} (hB : own_B k n c0 c1 c2 c3 c4 c5 c6 c7) (hwa : wa = (if (f17 k c0 n (0 : Int32)) = (0 : Int32) then (0 : Int32) else (if (f17 k c1 n (1 : Int32)) = (0 : Int32) then (0 : Int32) else (if (f17 k c2 n (2 : Int32)) = (0 : Int32) then (0 : Int32) else (if (f17 k c3 n (3 : Int32)) = (0 : Int32) then (0 : Int32) else (if (f17 k c4 n (4 : Int32)) = (0 : Int32) then (0 : Int32) else (if (f17 k c5 n (5 : Int32)) = (0 : Int32) then (0 : Int32) else (if (f17 k c6 n (6 : Int32)) = (0 : Int32) then (0 : Int32) else (if (f17 k c7 n (7 : Int32)) = (0 : Int32) then (0 : Int32) else (1 : Int32)))))))))) (hwn : wn = (if wa = (0 : Int32) then (0 : Int32) else (if ((n * b) % (8 : Int32)) < b then (if n = (0 : Int32) then (1 : Int32) else (if ((f18 k cl) &&& (((1 : Int32) <<< (((n * b) % (8 : Int32)) &&& 31)) - (1 : Int32))) = (0 : Int32) then (1 : Int32) else (0 : Int32))) else (0 : Int32)))) : (0 : Int32) = wn := by
  have e : wa = 0 := by
    rw [hwa]
    rcases hB with h0 | h1 | h2 | h3 | h4 | h5 | h6 | h7
    · simp only [own_ok0 h0, if_true, ite_self]
    · simp only [own_ok0 h1, if_true, ite_self]
    · simp only [own_ok0 h2, if_true, ite_self]
    · simp only [own_ok0 h3, if_true, ite_self]
    · simp only [own_ok0 h4, if_true, ite_self]
    · simp only [own_ok0 h5, if_true, ite_self]
    · simp only [own_ok0 h6, if_true, ite_self]
    · simp only [own_ok0 h7, if_true, ite_self]
  rw [hwn, if_pos e]
theorem own_lawG {o e : Addr} {k b n hd P cl wa wn c0 c1 c2 c3 c4 c5 c6 c7 : Int32} (hk : own_K k b) (hI : own_I n.toInt k b n hd P c0 c1 c2 c3 c4 c5 c6 c7) (hwa : wa = (if (f17 k c0 n (0 : Int32)) = (0 : Int32) then (0 : Int32) else (if (f17 k c1 n (1 : Int32)) = (0 : Int32) then (0 : Int32) else (if (f17 k c2 n (2 : Int32)) = (0 : Int32) then (0 : Int32) else (if (f17 k c3 n (3 : Int32)) = (0 : Int32) then (0 : Int32) else (if (f17 k c4 n (4 : Int32)) = (0 : Int32) then (0 : Int32) else (if (f17 k c5 n (5 : Int32)) = (0 : Int32) then (0 : Int32) else (if (f17 k c6 n (6 : Int32)) = (0 : Int32) then (0 : Int32) else (if (f17 k c7 n (7 : Int32)) = (0 : Int32) then (0 : Int32) else (1 : Int32)))))))))) (hcl : cl = (if n = (1 : Int32) then c0 else (if n = (2 : Int32) then c1 else (if n = (3 : Int32) then c2 else (if n = (4 : Int32) then c3 else (if n = (5 : Int32) then c4 else (if n = (6 : Int32) then c5 else (if n = (7 : Int32) then c6 else c7)))))))) (hwn : wn = (if wa = (0 : Int32) then (0 : Int32) else (if ((n * b) % (8 : Int32)) < b then (if n = (0 : Int32) then (1 : Int32) else (if ((f18 k cl) &&& (((1 : Int32) <<< (((n * b) % (8 : Int32)) &&& 31)) - (1 : Int32))) = (0 : Int32) then (1 : Int32) else (0 : Int32))) else (0 : Int32)))) : (f16g o e b P hd) = wn := by
  obtain ⟨⟨n0, a1, a2⟩, a3, a4, a5, g0, g1, g2, g3, g4, g5, g6, g7⟩ := hI
  have e0 := own_ok1 (k := k) (c := c0) (n := n) (j := 0) (fun q => g0 (by rw [Int32.lt_iff_toInt_lt] at q; exact q))
  have e1 := own_ok1 (k := k) (c := c1) (n := n) (j := 1) (fun q => g1 (by rw [Int32.lt_iff_toInt_lt] at q; exact q))
  have e2 := own_ok1 (k := k) (c := c2) (n := n) (j := 2) (fun q => g2 (by rw [Int32.lt_iff_toInt_lt] at q; exact q))
  have e3 := own_ok1 (k := k) (c := c3) (n := n) (j := 3) (fun q => g3 (by rw [Int32.lt_iff_toInt_lt] at q; exact q))
  have e4 := own_ok1 (k := k) (c := c4) (n := n) (j := 4) (fun q => g4 (by rw [Int32.lt_iff_toInt_lt] at q; exact q))
  have e5 := own_ok1 (k := k) (c := c5) (n := n) (j := 5) (fun q => g5 (by rw [Int32.lt_iff_toInt_lt] at q; exact q))
  have e6 := own_ok1 (k := k) (c := c6) (n := n) (j := 6) (fun q => g6 (by rw [Int32.lt_iff_toInt_lt] at q; exact q))
  have e7 := own_ok1 (k := k) (c := c7) (n := n) (j := 7) (fun q => g7 (by rw [Int32.lt_iff_toInt_lt] at q; exact q))
  have d10 : ¬ (1 : Int32) = 0 := by decide
  have wa1 : wa = 1 := by rw [hwa]; simp only [e0, e1, e2, e3, e4, e5, e6, e7, d10, if_false]
  have hh : ((n * b) % (8 : Int32)) = hd := by
    apply Int32.toInt_inj.mp
    have m := c_imul n b
    have r := rng32 (n * b)
    have mm : (n * b).toInt = n.toInt * b.toInt := by
      rcases own_b hk with e | e | e <;> rw [e] at m ⊢ <;> (generalize (n * b).toInt = q at *; clear a3 a4 a5; omega)
    have z := (c_irem (n * b) 8 8 (by decide)).1 (by rw [mm]; rcases own_b hk with e | e | e <;> rw [e] <;> omega)
    rw [z, mm, a3]
  rw [hwn, wa1, if_neg d10, hh]
  unfold f16g
  by_cases hb : hd < b
  · rw [if_pos hb, if_pos hb]
    by_cases hz : n = 0
    · have z : n.toInt = 0 := by rw [hz]; decide
      rw [if_pos hz, if_pos (a4 z)]
    · have z : 0 < n.toInt := by
        have q : ¬ n.toInt = 0 := fun q => hz (Int32.toInt_inj.mp (by rw [q]; decide))
        omega
      have ec : own_at n.toInt c0 c1 c2 c3 c4 c5 c6 c7 = cl := by
        rw [hcl]
        simp only [own_at]
        have t : ∀ m : Int32, (n = m) = (n.toInt = m.toInt) := fun m => propext Int32.toInt_inj.symm
        simp only [t]
        rfl
      rw [if_neg hz, a5 z hb, ec]
  · rw [if_neg hb, if_neg hb]
theorem own_fin {c : Int32} (h : own_R c) : ∃ r : Fin 256, c = Int32.ofNat r.val := by
  obtain ⟨h0, h1⟩ := h
  rw [Int32.lt_iff_toInt_lt] at h0 h1
  have z : (0 : Int32).toInt = 0 := by decide
  have y : (255 : Int32).toInt = 255 := by decide
  refine ⟨⟨c.toInt.toNat, by omega⟩, ?_⟩
  apply Int32.toInt_inj.mp
  have e : (Int32.ofNat c.toInt.toNat).toInt = (c.toInt.toNat : Int) := len_toInt (n := c.toInt.toNat) (by omega)
  show c.toInt = (Int32.ofNat c.toInt.toNat).toInt
  omega
theorem own_ch {q0 : Addr} {cs : Int32} {bb : Addr} {bk : ClassId} {sv : Value} {c : Int32} (h : own_R c) : (f11 q0 cs bb bk (nar .byte (c.toInt8.toInt32)) sv) = c := by
  have key : ∀ r : Fin 256, (nar .char (nar .char (((nar .byte ((Int32.ofNat r.val).toInt8.toInt32)) &&& (255 : Int32)).toUInt32.toUInt16.toUInt32.toInt32))) = Int32.ofNat r.val := by decide +kernel
  obtain ⟨r, rfl⟩ := own_fin h
  exact key r
theorem own_raw (y : Int64) : ∃ r : Fin 256, (y &&& (255 : Int64)).toInt32 = Int32.ofNat r.val := by
  apply own_fin
  have m := c_maskL y 255 8 (by decide) (by decide)
  have l := c_l2i (y &&& 255)
  have r := rng32 (y &&& 255).toInt32
  have z : (0 : Int32).toInt = 0 := by decide
  have y' : (255 : Int32).toInt = 255 := by decide
  constructor <;> rw [Int32.lt_iff_toInt_lt] <;> omega
theorem own_dr {k b j : Int32} {p2 : Int64} {p3 : Int32} (hk : own_K k b) : own_R (f1 k b p2 p3 j) := by
  unfold f1
  obtain ⟨r, er⟩ := own_raw ((p2.toUInt64 >>> (((8 : Int32) * j) &&& 0x3f).toInt64.toUInt64).toInt64)
  rw [er]
  have k1 : ∀ r : Fin 256, own_R (nar .char ((Int32.ofNat r.val).toUInt32.toUInt16.toUInt32.toInt32)) := by decide +kernel
  have k4 : ∀ r : Fin 256, own_R (nar .char (f19 0 ((Int32.ofNat r.val) &&& (((1 : Int32) <<< ((4 : Int32) &&& 31)) - (1 : Int32))))) := by decide +kernel
  have k5 : ∀ r : Fin 256, own_R (nar .char (f19 1 ((Int32.ofNat r.val) &&& (((1 : Int32) <<< ((5 : Int32) &&& 31)) - (1 : Int32))))) := by decide +kernel
  have k6 : ∀ r : Fin 256, own_R (nar .char (f19 2 ((Int32.ofNat r.val) &&& (((1 : Int32) <<< ((6 : Int32) &&& 31)) - (1 : Int32))))) := by decide +kernel
  split
  · exact k1 r
  · rcases hk with ⟨rfl, rfl⟩ | ⟨rfl, rfl⟩ | ⟨rfl, rfl⟩
    · exact k4 r
    · exact k5 r
    · exact k6 r
theorem own_drc {k b j c : Int32} {p2 : Int64} {p3 : Int32} (hk : own_K k b) (h : c = (f1 k b p2 p3 j)) : own_R c := h ▸ own_dr hk
theorem own_k3 {kk p0 : Int32} (h : kk = ((p0 &&& (2147483647 : Int32)) % (3 : Int32))) : kk = (0 : Int32) ∨ kk = (1 : Int32) ∨ kk = (2 : Int32) := by
  have e := c_mask p0 2147483647 31 (by decide) (by decide)
  have r := (c_irem (p0 &&& 2147483647) 3 3 (by decide)).1 (by omega)
  rw [← h] at r
  have b : kk.toInt = 0 ∨ kk.toInt = 1 ∨ kk.toInt = 2 := by omega
  simpa [← Int32.toInt_inj] using b
theorem own_vle {args : Array Value} {s : State} {idx : List Nat} {a b : Term} {x y : Int32} (ha : a.eval args s none idx s = some (.int x)) (hb : b.eval args s none idx s = some (.int y)) : (Cond.le a b).value args s none s idx = some (decide (x ≤ y)) := by simp [Cond.value, ha, hb]
theorem own_vlt {args : Array Value} {s : State} {idx : List Nat} {a b : Term} {x y : Int32} (ha : a.eval args s none idx s = some (.int x)) (hb : b.eval args s none idx s = some (.int y)) : (Cond.lt a b).value args s none s idx = some (decide (x < y)) := by simp [Cond.value, ha, hb]
theorem own_veq {args : Array Value} {s : State} {idx : List Nat} {a b : Term} {x y : Int32} (ha : a.eval args s none idx s = some (.int x)) (hb : b.eval args s none idx s = some (.int y)) : (Cond.eq a b).value args s none s idx = some (decide (x = y)) := by simp [Cond.value, ha, hb]
theorem own_veqL {args : Array Value} {s : State} {idx : List Nat} {a b : Term} {x y : Int64} (ha : a.eval args s none idx s = some (.long x)) (hb : b.eval args s none idx s = some (.long y)) : (Cond.eq a b).value args s none s idx = some (decide (x = y)) := by simp [Cond.value, ha, hb]
theorem own_vor {P Q : Prop} [Decidable P] [Decidable Q] {args : Array Value} {s : State} {idx : List Nat} {c d : Cond} (h1 : c.value args s none s idx = some (decide P)) (h2 : d.value args s none s idx = some (decide Q)) : (Cond.or c d).value args s none s idx = some (decide (P ∨ Q)) := by
  simp only [Cond.value, h1, h2]
  by_cases p : P <;> simp [p]
theorem own_vsub {args : Array Value} {s : State} {idx : List Nat} {a b : Term} {x y : Int32} (ha : a.eval args s none idx s = some (.int x)) (hb : b.eval args s none idx s = some (.int y)) : (Term.sub a b).eval args s none idx s = some (.int (x - y)) := by simp [Term.eval, ha, hb]
theorem own_dec {P : Prop} [Decidable P] {v : Option Bool} (h : v = some (decide P)) (q : v = some true) : P := by
  rw [h] at q
  exact of_decide_eq_true (Option.some.inj q)
theorem own_sb24 {c : Int32} (h0 : 0 ≤ c.toInt) (h1 : c.toInt < 128) : (c - (24 : Int32)).toInt = c.toInt - 24 := by
  have s := c_isub c 24
  have r := rng32 (c - 24)
  have z : (24 : Int32).toInt = 24 := by decide
  omega
theorem own_sb48 {c : Int32} (h0 : 0 ≤ c.toInt) (h1 : c.toInt < 128) : (c - (48 : Int32)).toInt = c.toInt - 48 := by
  have s := c_isub c 48
  have r := rng32 (c - 48)
  have z : (48 : Int32).toInt = 48 := by decide
  omega
theorem own_sb65 {c : Int32} (h0 : 0 ≤ c.toInt) (h1 : c.toInt < 128) : (c - (65 : Int32)).toInt = c.toInt - 65 := by
  have s := c_isub c 65
  have r := rng32 (c - 65)
  have z : (65 : Int32).toInt = 65 := by decide
  omega
theorem own_sb71 {c : Int32} (h0 : 0 ≤ c.toInt) (h1 : c.toInt < 128) : (c - (71 : Int32)).toInt = c.toInt - 71 := by
  have s := c_isub c 71
  have r := rng32 (c - 71)
  have z : (71 : Int32).toInt = 71 := by decide
  omega
theorem own_sb87 {c : Int32} (h0 : 0 ≤ c.toInt) (h1 : c.toInt < 128) : (c - (87 : Int32)).toInt = c.toInt - 87 := by
  have s := c_isub c 87
  have r := rng32 (c - 87)
  have z : (87 : Int32).toInt = 87 := by decide
  omega
theorem own_sb97 {c : Int32} (h0 : 0 ≤ c.toInt) (h1 : c.toInt < 128) : (c - (97 : Int32)).toInt = c.toInt - 97 := by
  have s := c_isub c 97
  have r := rng32 (c - 97)
  have z : (97 : Int32).toInt = 97 := by decide
  omega
theorem own_sb50 {c : Int32} (h0 : 0 ≤ c.toInt) (h1 : c.toInt < 128) : (c - (50 : Int32)).toInt = c.toInt - 50 := by
  have s := c_isub c 50
  have r := rng32 (c - 50)
  have z : (50 : Int32).toInt = 50 := by decide
  omega
theorem own_sa97_10 {c : Int32} (h0 : 0 ≤ c.toInt) (h1 : c.toInt < 128) : ((c - (97 : Int32)) + (10 : Int32)).toInt = c.toInt - 97 + 10 := by
  have e := own_sb97 h0 h1
  have s := c_iadd (c - 97) 10
  have r := rng32 ((c - 97) + 10)
  have z : (10 : Int32).toInt = 10 := by decide
  omega
theorem own_sa97_26 {c : Int32} (h0 : 0 ≤ c.toInt) (h1 : c.toInt < 128) : ((c - (97 : Int32)) + (26 : Int32)).toInt = c.toInt - 97 + 26 := by
  have e := own_sb97 h0 h1
  have s := c_iadd (c - 97) 26
  have r := rng32 ((c - 97) + 26)
  have z : (26 : Int32).toInt = 26 := by decide
  omega
theorem own_sa50_26 {c : Int32} (h0 : 0 ≤ c.toInt) (h1 : c.toInt < 128) : ((c - (50 : Int32)) + (26 : Int32)).toInt = c.toInt - 50 + 26 := by
  have e := own_sb50 h0 h1
  have s := c_iadd (c - 50) 26
  have r := rng32 ((c - 50) + 26)
  have z : (26 : Int32).toInt = 26 := by decide
  omega
theorem own_sa48_52 {c : Int32} (h0 : 0 ≤ c.toInt) (h1 : c.toInt < 128) : ((c - (48 : Int32)) + (52 : Int32)).toInt = c.toInt - 48 + 52 := by
  have e := own_sb48 h0 h1
  have s := c_iadd (c - 48) 52
  have r := rng32 ((c - 48) + 52)
  have z : (52 : Int32).toInt = 52 := by decide
  omega
theorem own_q64 {w c : Int32} (q : w.toInt64 = c.toInt64 + 4) : w.toInt = c.toInt + 4 := by
  have r := congrArg Int64.toInt q
  have a := c_ladd c.toInt64 4
  have b := rng64 (c.toInt64 + 4)
  rw [Int32.toInt_toInt64] at r
  rw [Int32.toInt_toInt64] at a
  have d := rng32 c
  have f : (4 : Int64).toInt = 4 := by decide
  omega
theorem own_fv0_0 {c w : Int32} (h0 : 0 ≤ c.toInt) (h1 : c.toInt < 48) (e : w.toInt = -1) : w.toInt = (f18 (0 : Int32) c).toInt := by
  have z0 : 0 ≤ c.toInt := by omega
  have z1 : c.toInt < 128 := by omega
  have nn : (-1 : Int32).toInt = -1 := by decide
  have n0 : (0 : Int32).toInt = 0 := by decide
  have n1 : (1 : Int32).toInt = 1 := by decide
  have n2 : (2 : Int32).toInt = 2 := by decide
  have n45 : (45 : Int32).toInt = 45 := by decide
  have n48 : (48 : Int32).toInt = 48 := by decide
  have n50 : (50 : Int32).toInt = 50 := by decide
  have n55 : (55 : Int32).toInt = 55 := by decide
  have n57 : (57 : Int32).toInt = 57 := by decide
  have n62 : (62 : Int32).toInt = 62 := by decide
  have n63 : (63 : Int32).toInt = 63 := by decide
  have n65 : (65 : Int32).toInt = 65 := by decide
  have n90 : (90 : Int32).toInt = 90 := by decide
  have n95 : (95 : Int32).toInt = 95 := by decide
  have n97 : (97 : Int32).toInt = 97 := by decide
  have n102 : (102 : Int32).toInt = 102 := by decide
  have n122 : (122 : Int32).toInt = 122 := by decide
  have e1 := own_sb48 z0 z1
  have e2 := own_sb65 z0 z1
  have e3 := own_sb97 z0 z1
  have e4 := own_sa97_10 z0 z1
  have e5 := own_sa97_26 z0 z1
  have e6 := own_sa50_26 z0 z1
  have e7 := own_sa48_52 z0 z1
  have p0 : c < (48 : Int32) := by
    rw [Int32.lt_iff_toInt_lt]
    omega
  have p1 : ¬ (57 : Int32) < c := by
    rw [Int32.lt_iff_toInt_lt]
    omega
  have p2 : c < (97 : Int32) := by
    rw [Int32.lt_iff_toInt_lt]
    omega
  have p3 : ¬ (102 : Int32) < c := by
    rw [Int32.lt_iff_toInt_lt]
    omega
  unfold f18
  rw [if_pos rfl]
  simp only [p0, p1, p2, p3, if_true, if_false, ite_self]
  first | omega | (repeat' split; all_goals omega)
theorem own_fv0_1 {c w : Int32} (h0 : 48 ≤ c.toInt) (h1 : c.toInt < 58) (e : w.toInt = c.toInt - 48) : w.toInt = (f18 (0 : Int32) c).toInt := by
  have z0 : 0 ≤ c.toInt := by omega
  have z1 : c.toInt < 128 := by omega
  have nn : (-1 : Int32).toInt = -1 := by decide
  have n0 : (0 : Int32).toInt = 0 := by decide
  have n1 : (1 : Int32).toInt = 1 := by decide
  have n2 : (2 : Int32).toInt = 2 := by decide
  have n45 : (45 : Int32).toInt = 45 := by decide
  have n48 : (48 : Int32).toInt = 48 := by decide
  have n50 : (50 : Int32).toInt = 50 := by decide
  have n55 : (55 : Int32).toInt = 55 := by decide
  have n57 : (57 : Int32).toInt = 57 := by decide
  have n62 : (62 : Int32).toInt = 62 := by decide
  have n63 : (63 : Int32).toInt = 63 := by decide
  have n65 : (65 : Int32).toInt = 65 := by decide
  have n90 : (90 : Int32).toInt = 90 := by decide
  have n95 : (95 : Int32).toInt = 95 := by decide
  have n97 : (97 : Int32).toInt = 97 := by decide
  have n102 : (102 : Int32).toInt = 102 := by decide
  have n122 : (122 : Int32).toInt = 122 := by decide
  have e1 := own_sb48 z0 z1
  have e2 := own_sb65 z0 z1
  have e3 := own_sb97 z0 z1
  have e4 := own_sa97_10 z0 z1
  have e5 := own_sa97_26 z0 z1
  have e6 := own_sa50_26 z0 z1
  have e7 := own_sa48_52 z0 z1
  have p0 : ¬ c < (48 : Int32) := by
    rw [Int32.lt_iff_toInt_lt]
    omega
  have p1 : ¬ (57 : Int32) < c := by
    rw [Int32.lt_iff_toInt_lt]
    omega
  have p2 : c < (97 : Int32) := by
    rw [Int32.lt_iff_toInt_lt]
    omega
  have p3 : ¬ (102 : Int32) < c := by
    rw [Int32.lt_iff_toInt_lt]
    omega
  unfold f18
  rw [if_pos rfl]
  simp only [p0, p1, p2, p3, if_true, if_false, ite_self]
  first | omega | (repeat' split; all_goals omega)
theorem own_fv0_2 {c w : Int32} (h0 : 58 ≤ c.toInt) (h1 : c.toInt < 97) (e : w.toInt = -1) : w.toInt = (f18 (0 : Int32) c).toInt := by
  have z0 : 0 ≤ c.toInt := by omega
  have z1 : c.toInt < 128 := by omega
  have nn : (-1 : Int32).toInt = -1 := by decide
  have n0 : (0 : Int32).toInt = 0 := by decide
  have n1 : (1 : Int32).toInt = 1 := by decide
  have n2 : (2 : Int32).toInt = 2 := by decide
  have n45 : (45 : Int32).toInt = 45 := by decide
  have n48 : (48 : Int32).toInt = 48 := by decide
  have n50 : (50 : Int32).toInt = 50 := by decide
  have n55 : (55 : Int32).toInt = 55 := by decide
  have n57 : (57 : Int32).toInt = 57 := by decide
  have n62 : (62 : Int32).toInt = 62 := by decide
  have n63 : (63 : Int32).toInt = 63 := by decide
  have n65 : (65 : Int32).toInt = 65 := by decide
  have n90 : (90 : Int32).toInt = 90 := by decide
  have n95 : (95 : Int32).toInt = 95 := by decide
  have n97 : (97 : Int32).toInt = 97 := by decide
  have n102 : (102 : Int32).toInt = 102 := by decide
  have n122 : (122 : Int32).toInt = 122 := by decide
  have e1 := own_sb48 z0 z1
  have e2 := own_sb65 z0 z1
  have e3 := own_sb97 z0 z1
  have e4 := own_sa97_10 z0 z1
  have e5 := own_sa97_26 z0 z1
  have e6 := own_sa50_26 z0 z1
  have e7 := own_sa48_52 z0 z1
  have p0 : ¬ c < (48 : Int32) := by
    rw [Int32.lt_iff_toInt_lt]
    omega
  have p1 : (57 : Int32) < c := by
    rw [Int32.lt_iff_toInt_lt]
    omega
  have p2 : c < (97 : Int32) := by
    rw [Int32.lt_iff_toInt_lt]
    omega
  have p3 : ¬ (102 : Int32) < c := by
    rw [Int32.lt_iff_toInt_lt]
    omega
  unfold f18
  rw [if_pos rfl]
  simp only [p0, p1, p2, p3, if_true, if_false, ite_self]
  first | omega | (repeat' split; all_goals omega)
theorem own_fv0_3 {c w : Int32} (h0 : 97 ≤ c.toInt) (h1 : c.toInt < 103) (e : w.toInt = c.toInt - 87) : w.toInt = (f18 (0 : Int32) c).toInt := by
  have z0 : 0 ≤ c.toInt := by omega
  have z1 : c.toInt < 128 := by omega
  have nn : (-1 : Int32).toInt = -1 := by decide
  have n0 : (0 : Int32).toInt = 0 := by decide
  have n1 : (1 : Int32).toInt = 1 := by decide
  have n2 : (2 : Int32).toInt = 2 := by decide
  have n45 : (45 : Int32).toInt = 45 := by decide
  have n48 : (48 : Int32).toInt = 48 := by decide
  have n50 : (50 : Int32).toInt = 50 := by decide
  have n55 : (55 : Int32).toInt = 55 := by decide
  have n57 : (57 : Int32).toInt = 57 := by decide
  have n62 : (62 : Int32).toInt = 62 := by decide
  have n63 : (63 : Int32).toInt = 63 := by decide
  have n65 : (65 : Int32).toInt = 65 := by decide
  have n90 : (90 : Int32).toInt = 90 := by decide
  have n95 : (95 : Int32).toInt = 95 := by decide
  have n97 : (97 : Int32).toInt = 97 := by decide
  have n102 : (102 : Int32).toInt = 102 := by decide
  have n122 : (122 : Int32).toInt = 122 := by decide
  have e1 := own_sb48 z0 z1
  have e2 := own_sb65 z0 z1
  have e3 := own_sb97 z0 z1
  have e4 := own_sa97_10 z0 z1
  have e5 := own_sa97_26 z0 z1
  have e6 := own_sa50_26 z0 z1
  have e7 := own_sa48_52 z0 z1
  have p0 : ¬ c < (48 : Int32) := by
    rw [Int32.lt_iff_toInt_lt]
    omega
  have p1 : (57 : Int32) < c := by
    rw [Int32.lt_iff_toInt_lt]
    omega
  have p2 : ¬ c < (97 : Int32) := by
    rw [Int32.lt_iff_toInt_lt]
    omega
  have p3 : ¬ (102 : Int32) < c := by
    rw [Int32.lt_iff_toInt_lt]
    omega
  unfold f18
  rw [if_pos rfl]
  simp only [p0, p1, p2, p3, if_true, if_false, ite_self]
  first | omega | (repeat' split; all_goals omega)
theorem own_fv0_4 {c w : Int32} (h0 : 103 ≤ c.toInt) (h1 : c.toInt < 128) (e : w.toInt = -1) : w.toInt = (f18 (0 : Int32) c).toInt := by
  have z0 : 0 ≤ c.toInt := by omega
  have z1 : c.toInt < 128 := by omega
  have nn : (-1 : Int32).toInt = -1 := by decide
  have n0 : (0 : Int32).toInt = 0 := by decide
  have n1 : (1 : Int32).toInt = 1 := by decide
  have n2 : (2 : Int32).toInt = 2 := by decide
  have n45 : (45 : Int32).toInt = 45 := by decide
  have n48 : (48 : Int32).toInt = 48 := by decide
  have n50 : (50 : Int32).toInt = 50 := by decide
  have n55 : (55 : Int32).toInt = 55 := by decide
  have n57 : (57 : Int32).toInt = 57 := by decide
  have n62 : (62 : Int32).toInt = 62 := by decide
  have n63 : (63 : Int32).toInt = 63 := by decide
  have n65 : (65 : Int32).toInt = 65 := by decide
  have n90 : (90 : Int32).toInt = 90 := by decide
  have n95 : (95 : Int32).toInt = 95 := by decide
  have n97 : (97 : Int32).toInt = 97 := by decide
  have n102 : (102 : Int32).toInt = 102 := by decide
  have n122 : (122 : Int32).toInt = 122 := by decide
  have e1 := own_sb48 z0 z1
  have e2 := own_sb65 z0 z1
  have e3 := own_sb97 z0 z1
  have e4 := own_sa97_10 z0 z1
  have e5 := own_sa97_26 z0 z1
  have e6 := own_sa50_26 z0 z1
  have e7 := own_sa48_52 z0 z1
  have p0 : ¬ c < (48 : Int32) := by
    rw [Int32.lt_iff_toInt_lt]
    omega
  have p1 : (57 : Int32) < c := by
    rw [Int32.lt_iff_toInt_lt]
    omega
  have p2 : ¬ c < (97 : Int32) := by
    rw [Int32.lt_iff_toInt_lt]
    omega
  have p3 : (102 : Int32) < c := by
    rw [Int32.lt_iff_toInt_lt]
    omega
  unfold f18
  rw [if_pos rfl]
  simp only [p0, p1, p2, p3, if_true, if_false, ite_self]
  first | omega | (repeat' split; all_goals omega)
theorem own_fv1_0 {c w : Int32} (h0 : 0 ≤ c.toInt) (h1 : c.toInt < 50) (e : w.toInt = -1) : w.toInt = (f18 (1 : Int32) c).toInt := by
  have z0 : 0 ≤ c.toInt := by omega
  have z1 : c.toInt < 128 := by omega
  have nn : (-1 : Int32).toInt = -1 := by decide
  have n0 : (0 : Int32).toInt = 0 := by decide
  have n1 : (1 : Int32).toInt = 1 := by decide
  have n2 : (2 : Int32).toInt = 2 := by decide
  have n45 : (45 : Int32).toInt = 45 := by decide
  have n48 : (48 : Int32).toInt = 48 := by decide
  have n50 : (50 : Int32).toInt = 50 := by decide
  have n55 : (55 : Int32).toInt = 55 := by decide
  have n57 : (57 : Int32).toInt = 57 := by decide
  have n62 : (62 : Int32).toInt = 62 := by decide
  have n63 : (63 : Int32).toInt = 63 := by decide
  have n65 : (65 : Int32).toInt = 65 := by decide
  have n90 : (90 : Int32).toInt = 90 := by decide
  have n95 : (95 : Int32).toInt = 95 := by decide
  have n97 : (97 : Int32).toInt = 97 := by decide
  have n102 : (102 : Int32).toInt = 102 := by decide
  have n122 : (122 : Int32).toInt = 122 := by decide
  have e1 := own_sb48 z0 z1
  have e2 := own_sb65 z0 z1
  have e3 := own_sb97 z0 z1
  have e4 := own_sa97_10 z0 z1
  have e5 := own_sa97_26 z0 z1
  have e6 := own_sa50_26 z0 z1
  have e7 := own_sa48_52 z0 z1
  have p0 : c < (97 : Int32) := by
    rw [Int32.lt_iff_toInt_lt]
    omega
  have p1 : ¬ (122 : Int32) < c := by
    rw [Int32.lt_iff_toInt_lt]
    omega
  have p2 : c < (50 : Int32) := by
    rw [Int32.lt_iff_toInt_lt]
    omega
  have p3 : ¬ (55 : Int32) < c := by
    rw [Int32.lt_iff_toInt_lt]
    omega
  unfold f18
  rw [if_neg (by decide : ¬ (1 : Int32) = 0), if_pos rfl]
  simp only [p0, p1, p2, p3, if_true, if_false, ite_self]
  first | omega | (repeat' split; all_goals omega)
theorem own_fv1_1 {c w : Int32} (h0 : 50 ≤ c.toInt) (h1 : c.toInt < 56) (e : w.toInt = c.toInt - 24) : w.toInt = (f18 (1 : Int32) c).toInt := by
  have z0 : 0 ≤ c.toInt := by omega
  have z1 : c.toInt < 128 := by omega
  have nn : (-1 : Int32).toInt = -1 := by decide
  have n0 : (0 : Int32).toInt = 0 := by decide
  have n1 : (1 : Int32).toInt = 1 := by decide
  have n2 : (2 : Int32).toInt = 2 := by decide
  have n45 : (45 : Int32).toInt = 45 := by decide
  have n48 : (48 : Int32).toInt = 48 := by decide
  have n50 : (50 : Int32).toInt = 50 := by decide
  have n55 : (55 : Int32).toInt = 55 := by decide
  have n57 : (57 : Int32).toInt = 57 := by decide
  have n62 : (62 : Int32).toInt = 62 := by decide
  have n63 : (63 : Int32).toInt = 63 := by decide
  have n65 : (65 : Int32).toInt = 65 := by decide
  have n90 : (90 : Int32).toInt = 90 := by decide
  have n95 : (95 : Int32).toInt = 95 := by decide
  have n97 : (97 : Int32).toInt = 97 := by decide
  have n102 : (102 : Int32).toInt = 102 := by decide
  have n122 : (122 : Int32).toInt = 122 := by decide
  have e1 := own_sb48 z0 z1
  have e2 := own_sb65 z0 z1
  have e3 := own_sb97 z0 z1
  have e4 := own_sa97_10 z0 z1
  have e5 := own_sa97_26 z0 z1
  have e6 := own_sa50_26 z0 z1
  have e7 := own_sa48_52 z0 z1
  have p0 : c < (97 : Int32) := by
    rw [Int32.lt_iff_toInt_lt]
    omega
  have p1 : ¬ (122 : Int32) < c := by
    rw [Int32.lt_iff_toInt_lt]
    omega
  have p2 : ¬ c < (50 : Int32) := by
    rw [Int32.lt_iff_toInt_lt]
    omega
  have p3 : ¬ (55 : Int32) < c := by
    rw [Int32.lt_iff_toInt_lt]
    omega
  unfold f18
  rw [if_neg (by decide : ¬ (1 : Int32) = 0), if_pos rfl]
  simp only [p0, p1, p2, p3, if_true, if_false, ite_self]
  first | omega | (repeat' split; all_goals omega)
theorem own_fv1_2 {c w : Int32} (h0 : 56 ≤ c.toInt) (h1 : c.toInt < 97) (e : w.toInt = -1) : w.toInt = (f18 (1 : Int32) c).toInt := by
  have z0 : 0 ≤ c.toInt := by omega
  have z1 : c.toInt < 128 := by omega
  have nn : (-1 : Int32).toInt = -1 := by decide
  have n0 : (0 : Int32).toInt = 0 := by decide
  have n1 : (1 : Int32).toInt = 1 := by decide
  have n2 : (2 : Int32).toInt = 2 := by decide
  have n45 : (45 : Int32).toInt = 45 := by decide
  have n48 : (48 : Int32).toInt = 48 := by decide
  have n50 : (50 : Int32).toInt = 50 := by decide
  have n55 : (55 : Int32).toInt = 55 := by decide
  have n57 : (57 : Int32).toInt = 57 := by decide
  have n62 : (62 : Int32).toInt = 62 := by decide
  have n63 : (63 : Int32).toInt = 63 := by decide
  have n65 : (65 : Int32).toInt = 65 := by decide
  have n90 : (90 : Int32).toInt = 90 := by decide
  have n95 : (95 : Int32).toInt = 95 := by decide
  have n97 : (97 : Int32).toInt = 97 := by decide
  have n102 : (102 : Int32).toInt = 102 := by decide
  have n122 : (122 : Int32).toInt = 122 := by decide
  have e1 := own_sb48 z0 z1
  have e2 := own_sb65 z0 z1
  have e3 := own_sb97 z0 z1
  have e4 := own_sa97_10 z0 z1
  have e5 := own_sa97_26 z0 z1
  have e6 := own_sa50_26 z0 z1
  have e7 := own_sa48_52 z0 z1
  have p0 : c < (97 : Int32) := by
    rw [Int32.lt_iff_toInt_lt]
    omega
  have p1 : ¬ (122 : Int32) < c := by
    rw [Int32.lt_iff_toInt_lt]
    omega
  have p2 : ¬ c < (50 : Int32) := by
    rw [Int32.lt_iff_toInt_lt]
    omega
  have p3 : (55 : Int32) < c := by
    rw [Int32.lt_iff_toInt_lt]
    omega
  unfold f18
  rw [if_neg (by decide : ¬ (1 : Int32) = 0), if_pos rfl]
  simp only [p0, p1, p2, p3, if_true, if_false, ite_self]
  first | omega | (repeat' split; all_goals omega)
theorem own_fv1_3 {c w : Int32} (h0 : 97 ≤ c.toInt) (h1 : c.toInt < 123) (e : w.toInt = c.toInt - 97) : w.toInt = (f18 (1 : Int32) c).toInt := by
  have z0 : 0 ≤ c.toInt := by omega
  have z1 : c.toInt < 128 := by omega
  have nn : (-1 : Int32).toInt = -1 := by decide
  have n0 : (0 : Int32).toInt = 0 := by decide
  have n1 : (1 : Int32).toInt = 1 := by decide
  have n2 : (2 : Int32).toInt = 2 := by decide
  have n45 : (45 : Int32).toInt = 45 := by decide
  have n48 : (48 : Int32).toInt = 48 := by decide
  have n50 : (50 : Int32).toInt = 50 := by decide
  have n55 : (55 : Int32).toInt = 55 := by decide
  have n57 : (57 : Int32).toInt = 57 := by decide
  have n62 : (62 : Int32).toInt = 62 := by decide
  have n63 : (63 : Int32).toInt = 63 := by decide
  have n65 : (65 : Int32).toInt = 65 := by decide
  have n90 : (90 : Int32).toInt = 90 := by decide
  have n95 : (95 : Int32).toInt = 95 := by decide
  have n97 : (97 : Int32).toInt = 97 := by decide
  have n102 : (102 : Int32).toInt = 102 := by decide
  have n122 : (122 : Int32).toInt = 122 := by decide
  have e1 := own_sb48 z0 z1
  have e2 := own_sb65 z0 z1
  have e3 := own_sb97 z0 z1
  have e4 := own_sa97_10 z0 z1
  have e5 := own_sa97_26 z0 z1
  have e6 := own_sa50_26 z0 z1
  have e7 := own_sa48_52 z0 z1
  have p0 : ¬ c < (97 : Int32) := by
    rw [Int32.lt_iff_toInt_lt]
    omega
  have p1 : ¬ (122 : Int32) < c := by
    rw [Int32.lt_iff_toInt_lt]
    omega
  have p2 : ¬ c < (50 : Int32) := by
    rw [Int32.lt_iff_toInt_lt]
    omega
  have p3 : (55 : Int32) < c := by
    rw [Int32.lt_iff_toInt_lt]
    omega
  unfold f18
  rw [if_neg (by decide : ¬ (1 : Int32) = 0), if_pos rfl]
  simp only [p0, p1, p2, p3, if_true, if_false, ite_self]
  first | omega | (repeat' split; all_goals omega)
theorem own_fv1_4 {c w : Int32} (h0 : 123 ≤ c.toInt) (h1 : c.toInt < 128) (e : w.toInt = -1) : w.toInt = (f18 (1 : Int32) c).toInt := by
  have z0 : 0 ≤ c.toInt := by omega
  have z1 : c.toInt < 128 := by omega
  have nn : (-1 : Int32).toInt = -1 := by decide
  have n0 : (0 : Int32).toInt = 0 := by decide
  have n1 : (1 : Int32).toInt = 1 := by decide
  have n2 : (2 : Int32).toInt = 2 := by decide
  have n45 : (45 : Int32).toInt = 45 := by decide
  have n48 : (48 : Int32).toInt = 48 := by decide
  have n50 : (50 : Int32).toInt = 50 := by decide
  have n55 : (55 : Int32).toInt = 55 := by decide
  have n57 : (57 : Int32).toInt = 57 := by decide
  have n62 : (62 : Int32).toInt = 62 := by decide
  have n63 : (63 : Int32).toInt = 63 := by decide
  have n65 : (65 : Int32).toInt = 65 := by decide
  have n90 : (90 : Int32).toInt = 90 := by decide
  have n95 : (95 : Int32).toInt = 95 := by decide
  have n97 : (97 : Int32).toInt = 97 := by decide
  have n102 : (102 : Int32).toInt = 102 := by decide
  have n122 : (122 : Int32).toInt = 122 := by decide
  have e1 := own_sb48 z0 z1
  have e2 := own_sb65 z0 z1
  have e3 := own_sb97 z0 z1
  have e4 := own_sa97_10 z0 z1
  have e5 := own_sa97_26 z0 z1
  have e6 := own_sa50_26 z0 z1
  have e7 := own_sa48_52 z0 z1
  have p0 : ¬ c < (97 : Int32) := by
    rw [Int32.lt_iff_toInt_lt]
    omega
  have p1 : (122 : Int32) < c := by
    rw [Int32.lt_iff_toInt_lt]
    omega
  have p2 : ¬ c < (50 : Int32) := by
    rw [Int32.lt_iff_toInt_lt]
    omega
  have p3 : (55 : Int32) < c := by
    rw [Int32.lt_iff_toInt_lt]
    omega
  unfold f18
  rw [if_neg (by decide : ¬ (1 : Int32) = 0), if_pos rfl]
  simp only [p0, p1, p2, p3, if_true, if_false, ite_self]
  first | omega | (repeat' split; all_goals omega)
theorem own_fv2_0 {c w : Int32} (h0 : 0 ≤ c.toInt) (h1 : c.toInt < 45) (e : w.toInt = -1) : w.toInt = (f18 (2 : Int32) c).toInt := by
  have z0 : 0 ≤ c.toInt := by omega
  have z1 : c.toInt < 128 := by omega
  have nn : (-1 : Int32).toInt = -1 := by decide
  have n0 : (0 : Int32).toInt = 0 := by decide
  have n1 : (1 : Int32).toInt = 1 := by decide
  have n2 : (2 : Int32).toInt = 2 := by decide
  have n45 : (45 : Int32).toInt = 45 := by decide
  have n48 : (48 : Int32).toInt = 48 := by decide
  have n50 : (50 : Int32).toInt = 50 := by decide
  have n55 : (55 : Int32).toInt = 55 := by decide
  have n57 : (57 : Int32).toInt = 57 := by decide
  have n62 : (62 : Int32).toInt = 62 := by decide
  have n63 : (63 : Int32).toInt = 63 := by decide
  have n65 : (65 : Int32).toInt = 65 := by decide
  have n90 : (90 : Int32).toInt = 90 := by decide
  have n95 : (95 : Int32).toInt = 95 := by decide
  have n97 : (97 : Int32).toInt = 97 := by decide
  have n102 : (102 : Int32).toInt = 102 := by decide
  have n122 : (122 : Int32).toInt = 122 := by decide
  have e1 := own_sb48 z0 z1
  have e2 := own_sb65 z0 z1
  have e3 := own_sb97 z0 z1
  have e4 := own_sa97_10 z0 z1
  have e5 := own_sa97_26 z0 z1
  have e6 := own_sa50_26 z0 z1
  have e7 := own_sa48_52 z0 z1
  have p0 : c < (65 : Int32) := by
    rw [Int32.lt_iff_toInt_lt]
    omega
  have p1 : ¬ (90 : Int32) < c := by
    rw [Int32.lt_iff_toInt_lt]
    omega
  have p2 : c < (97 : Int32) := by
    rw [Int32.lt_iff_toInt_lt]
    omega
  have p3 : ¬ (122 : Int32) < c := by
    rw [Int32.lt_iff_toInt_lt]
    omega
  have p4 : c < (48 : Int32) := by
    rw [Int32.lt_iff_toInt_lt]
    omega
  have p5 : ¬ (57 : Int32) < c := by
    rw [Int32.lt_iff_toInt_lt]
    omega
  have p6 : ¬ c = (45 : Int32) := by
    rw [← Int32.toInt_inj]
    omega
  have p7 : ¬ c = (95 : Int32) := by
    rw [← Int32.toInt_inj]
    omega
  unfold f18
  rw [if_neg (by decide : ¬ (2 : Int32) = 0), if_neg (by decide : ¬ (2 : Int32) = 1)]
  simp only [p0, p1, p2, p3, p4, p5, p6, p7, if_true, if_false, ite_self]
  first | omega | (repeat' split; all_goals omega)
theorem own_fv2_1 {c w : Int32} (h0 : 45 ≤ c.toInt) (h1 : c.toInt < 46) (e : w.toInt = 62) : w.toInt = (f18 (2 : Int32) c).toInt := by
  have z0 : 0 ≤ c.toInt := by omega
  have z1 : c.toInt < 128 := by omega
  have nn : (-1 : Int32).toInt = -1 := by decide
  have n0 : (0 : Int32).toInt = 0 := by decide
  have n1 : (1 : Int32).toInt = 1 := by decide
  have n2 : (2 : Int32).toInt = 2 := by decide
  have n45 : (45 : Int32).toInt = 45 := by decide
  have n48 : (48 : Int32).toInt = 48 := by decide
  have n50 : (50 : Int32).toInt = 50 := by decide
  have n55 : (55 : Int32).toInt = 55 := by decide
  have n57 : (57 : Int32).toInt = 57 := by decide
  have n62 : (62 : Int32).toInt = 62 := by decide
  have n63 : (63 : Int32).toInt = 63 := by decide
  have n65 : (65 : Int32).toInt = 65 := by decide
  have n90 : (90 : Int32).toInt = 90 := by decide
  have n95 : (95 : Int32).toInt = 95 := by decide
  have n97 : (97 : Int32).toInt = 97 := by decide
  have n102 : (102 : Int32).toInt = 102 := by decide
  have n122 : (122 : Int32).toInt = 122 := by decide
  have e1 := own_sb48 z0 z1
  have e2 := own_sb65 z0 z1
  have e3 := own_sb97 z0 z1
  have e4 := own_sa97_10 z0 z1
  have e5 := own_sa97_26 z0 z1
  have e6 := own_sa50_26 z0 z1
  have e7 := own_sa48_52 z0 z1
  have p0 : c < (65 : Int32) := by
    rw [Int32.lt_iff_toInt_lt]
    omega
  have p1 : ¬ (90 : Int32) < c := by
    rw [Int32.lt_iff_toInt_lt]
    omega
  have p2 : c < (97 : Int32) := by
    rw [Int32.lt_iff_toInt_lt]
    omega
  have p3 : ¬ (122 : Int32) < c := by
    rw [Int32.lt_iff_toInt_lt]
    omega
  have p4 : c < (48 : Int32) := by
    rw [Int32.lt_iff_toInt_lt]
    omega
  have p5 : ¬ (57 : Int32) < c := by
    rw [Int32.lt_iff_toInt_lt]
    omega
  have p6 : c = (45 : Int32) := by
    rw [← Int32.toInt_inj]
    omega
  have p7 : ¬ c = (95 : Int32) := by
    rw [← Int32.toInt_inj]
    omega
  have pe : c = (45 : Int32) := Int32.toInt_inj.mp (by rw [show (45 : Int32).toInt = 45 by decide]; omega)
  subst pe
  exact e.trans (by decide)
theorem own_fv2_2 {c w : Int32} (h0 : 46 ≤ c.toInt) (h1 : c.toInt < 47) (e : w.toInt = -1) : w.toInt = (f18 (2 : Int32) c).toInt := by
  have z0 : 0 ≤ c.toInt := by omega
  have z1 : c.toInt < 128 := by omega
  have nn : (-1 : Int32).toInt = -1 := by decide
  have n0 : (0 : Int32).toInt = 0 := by decide
  have n1 : (1 : Int32).toInt = 1 := by decide
  have n2 : (2 : Int32).toInt = 2 := by decide
  have n45 : (45 : Int32).toInt = 45 := by decide
  have n48 : (48 : Int32).toInt = 48 := by decide
  have n50 : (50 : Int32).toInt = 50 := by decide
  have n55 : (55 : Int32).toInt = 55 := by decide
  have n57 : (57 : Int32).toInt = 57 := by decide
  have n62 : (62 : Int32).toInt = 62 := by decide
  have n63 : (63 : Int32).toInt = 63 := by decide
  have n65 : (65 : Int32).toInt = 65 := by decide
  have n90 : (90 : Int32).toInt = 90 := by decide
  have n95 : (95 : Int32).toInt = 95 := by decide
  have n97 : (97 : Int32).toInt = 97 := by decide
  have n102 : (102 : Int32).toInt = 102 := by decide
  have n122 : (122 : Int32).toInt = 122 := by decide
  have e1 := own_sb48 z0 z1
  have e2 := own_sb65 z0 z1
  have e3 := own_sb97 z0 z1
  have e4 := own_sa97_10 z0 z1
  have e5 := own_sa97_26 z0 z1
  have e6 := own_sa50_26 z0 z1
  have e7 := own_sa48_52 z0 z1
  have p0 : c < (65 : Int32) := by
    rw [Int32.lt_iff_toInt_lt]
    omega
  have p1 : ¬ (90 : Int32) < c := by
    rw [Int32.lt_iff_toInt_lt]
    omega
  have p2 : c < (97 : Int32) := by
    rw [Int32.lt_iff_toInt_lt]
    omega
  have p3 : ¬ (122 : Int32) < c := by
    rw [Int32.lt_iff_toInt_lt]
    omega
  have p4 : c < (48 : Int32) := by
    rw [Int32.lt_iff_toInt_lt]
    omega
  have p5 : ¬ (57 : Int32) < c := by
    rw [Int32.lt_iff_toInt_lt]
    omega
  have p6 : ¬ c = (45 : Int32) := by
    rw [← Int32.toInt_inj]
    omega
  have p7 : ¬ c = (95 : Int32) := by
    rw [← Int32.toInt_inj]
    omega
  have pe : c = (46 : Int32) := Int32.toInt_inj.mp (by rw [show (46 : Int32).toInt = 46 by decide]; omega)
  subst pe
  exact e.trans (by decide)
theorem own_fv2_3 {c w : Int32} (h0 : 47 ≤ c.toInt) (h1 : c.toInt < 48) (e : w.toInt = -1) : w.toInt = (f18 (2 : Int32) c).toInt := by
  have z0 : 0 ≤ c.toInt := by omega
  have z1 : c.toInt < 128 := by omega
  have nn : (-1 : Int32).toInt = -1 := by decide
  have n0 : (0 : Int32).toInt = 0 := by decide
  have n1 : (1 : Int32).toInt = 1 := by decide
  have n2 : (2 : Int32).toInt = 2 := by decide
  have n45 : (45 : Int32).toInt = 45 := by decide
  have n48 : (48 : Int32).toInt = 48 := by decide
  have n50 : (50 : Int32).toInt = 50 := by decide
  have n55 : (55 : Int32).toInt = 55 := by decide
  have n57 : (57 : Int32).toInt = 57 := by decide
  have n62 : (62 : Int32).toInt = 62 := by decide
  have n63 : (63 : Int32).toInt = 63 := by decide
  have n65 : (65 : Int32).toInt = 65 := by decide
  have n90 : (90 : Int32).toInt = 90 := by decide
  have n95 : (95 : Int32).toInt = 95 := by decide
  have n97 : (97 : Int32).toInt = 97 := by decide
  have n102 : (102 : Int32).toInt = 102 := by decide
  have n122 : (122 : Int32).toInt = 122 := by decide
  have e1 := own_sb48 z0 z1
  have e2 := own_sb65 z0 z1
  have e3 := own_sb97 z0 z1
  have e4 := own_sa97_10 z0 z1
  have e5 := own_sa97_26 z0 z1
  have e6 := own_sa50_26 z0 z1
  have e7 := own_sa48_52 z0 z1
  have p0 : c < (65 : Int32) := by
    rw [Int32.lt_iff_toInt_lt]
    omega
  have p1 : ¬ (90 : Int32) < c := by
    rw [Int32.lt_iff_toInt_lt]
    omega
  have p2 : c < (97 : Int32) := by
    rw [Int32.lt_iff_toInt_lt]
    omega
  have p3 : ¬ (122 : Int32) < c := by
    rw [Int32.lt_iff_toInt_lt]
    omega
  have p4 : c < (48 : Int32) := by
    rw [Int32.lt_iff_toInt_lt]
    omega
  have p5 : ¬ (57 : Int32) < c := by
    rw [Int32.lt_iff_toInt_lt]
    omega
  have p6 : ¬ c = (45 : Int32) := by
    rw [← Int32.toInt_inj]
    omega
  have p7 : ¬ c = (95 : Int32) := by
    rw [← Int32.toInt_inj]
    omega
  have pe : c = (47 : Int32) := Int32.toInt_inj.mp (by rw [show (47 : Int32).toInt = 47 by decide]; omega)
  subst pe
  exact e.trans (by decide)
theorem own_fv2_4 {c w : Int32} (h0 : 48 ≤ c.toInt) (h1 : c.toInt < 58) (e : w.toInt = c.toInt + 4) : w.toInt = (f18 (2 : Int32) c).toInt := by
  have z0 : 0 ≤ c.toInt := by omega
  have z1 : c.toInt < 128 := by omega
  have nn : (-1 : Int32).toInt = -1 := by decide
  have n0 : (0 : Int32).toInt = 0 := by decide
  have n1 : (1 : Int32).toInt = 1 := by decide
  have n2 : (2 : Int32).toInt = 2 := by decide
  have n45 : (45 : Int32).toInt = 45 := by decide
  have n48 : (48 : Int32).toInt = 48 := by decide
  have n50 : (50 : Int32).toInt = 50 := by decide
  have n55 : (55 : Int32).toInt = 55 := by decide
  have n57 : (57 : Int32).toInt = 57 := by decide
  have n62 : (62 : Int32).toInt = 62 := by decide
  have n63 : (63 : Int32).toInt = 63 := by decide
  have n65 : (65 : Int32).toInt = 65 := by decide
  have n90 : (90 : Int32).toInt = 90 := by decide
  have n95 : (95 : Int32).toInt = 95 := by decide
  have n97 : (97 : Int32).toInt = 97 := by decide
  have n102 : (102 : Int32).toInt = 102 := by decide
  have n122 : (122 : Int32).toInt = 122 := by decide
  have e1 := own_sb48 z0 z1
  have e2 := own_sb65 z0 z1
  have e3 := own_sb97 z0 z1
  have e4 := own_sa97_10 z0 z1
  have e5 := own_sa97_26 z0 z1
  have e6 := own_sa50_26 z0 z1
  have e7 := own_sa48_52 z0 z1
  have p0 : c < (65 : Int32) := by
    rw [Int32.lt_iff_toInt_lt]
    omega
  have p1 : ¬ (90 : Int32) < c := by
    rw [Int32.lt_iff_toInt_lt]
    omega
  have p2 : c < (97 : Int32) := by
    rw [Int32.lt_iff_toInt_lt]
    omega
  have p3 : ¬ (122 : Int32) < c := by
    rw [Int32.lt_iff_toInt_lt]
    omega
  have p4 : ¬ c < (48 : Int32) := by
    rw [Int32.lt_iff_toInt_lt]
    omega
  have p5 : ¬ (57 : Int32) < c := by
    rw [Int32.lt_iff_toInt_lt]
    omega
  have p6 : ¬ c = (45 : Int32) := by
    rw [← Int32.toInt_inj]
    omega
  have p7 : ¬ c = (95 : Int32) := by
    rw [← Int32.toInt_inj]
    omega
  unfold f18
  rw [if_neg (by decide : ¬ (2 : Int32) = 0), if_neg (by decide : ¬ (2 : Int32) = 1)]
  simp only [p0, p1, p2, p3, p4, p5, p6, p7, if_true, if_false, ite_self]
  first | omega | (repeat' split; all_goals omega)
theorem own_fv2_5 {c w : Int32} (h0 : 58 ≤ c.toInt) (h1 : c.toInt < 65) (e : w.toInt = -1) : w.toInt = (f18 (2 : Int32) c).toInt := by
  have z0 : 0 ≤ c.toInt := by omega
  have z1 : c.toInt < 128 := by omega
  have nn : (-1 : Int32).toInt = -1 := by decide
  have n0 : (0 : Int32).toInt = 0 := by decide
  have n1 : (1 : Int32).toInt = 1 := by decide
  have n2 : (2 : Int32).toInt = 2 := by decide
  have n45 : (45 : Int32).toInt = 45 := by decide
  have n48 : (48 : Int32).toInt = 48 := by decide
  have n50 : (50 : Int32).toInt = 50 := by decide
  have n55 : (55 : Int32).toInt = 55 := by decide
  have n57 : (57 : Int32).toInt = 57 := by decide
  have n62 : (62 : Int32).toInt = 62 := by decide
  have n63 : (63 : Int32).toInt = 63 := by decide
  have n65 : (65 : Int32).toInt = 65 := by decide
  have n90 : (90 : Int32).toInt = 90 := by decide
  have n95 : (95 : Int32).toInt = 95 := by decide
  have n97 : (97 : Int32).toInt = 97 := by decide
  have n102 : (102 : Int32).toInt = 102 := by decide
  have n122 : (122 : Int32).toInt = 122 := by decide
  have e1 := own_sb48 z0 z1
  have e2 := own_sb65 z0 z1
  have e3 := own_sb97 z0 z1
  have e4 := own_sa97_10 z0 z1
  have e5 := own_sa97_26 z0 z1
  have e6 := own_sa50_26 z0 z1
  have e7 := own_sa48_52 z0 z1
  have p0 : c < (65 : Int32) := by
    rw [Int32.lt_iff_toInt_lt]
    omega
  have p1 : ¬ (90 : Int32) < c := by
    rw [Int32.lt_iff_toInt_lt]
    omega
  have p2 : c < (97 : Int32) := by
    rw [Int32.lt_iff_toInt_lt]
    omega
  have p3 : ¬ (122 : Int32) < c := by
    rw [Int32.lt_iff_toInt_lt]
    omega
  have p4 : ¬ c < (48 : Int32) := by
    rw [Int32.lt_iff_toInt_lt]
    omega
  have p5 : (57 : Int32) < c := by
    rw [Int32.lt_iff_toInt_lt]
    omega
  have p6 : ¬ c = (45 : Int32) := by
    rw [← Int32.toInt_inj]
    omega
  have p7 : ¬ c = (95 : Int32) := by
    rw [← Int32.toInt_inj]
    omega
  unfold f18
  rw [if_neg (by decide : ¬ (2 : Int32) = 0), if_neg (by decide : ¬ (2 : Int32) = 1)]
  simp only [p0, p1, p2, p3, p4, p5, p6, p7, if_true, if_false, ite_self]
  first | omega | (repeat' split; all_goals omega)
theorem own_fv2_6 {c w : Int32} (h0 : 65 ≤ c.toInt) (h1 : c.toInt < 91) (e : w.toInt = c.toInt - 65) : w.toInt = (f18 (2 : Int32) c).toInt := by
  have z0 : 0 ≤ c.toInt := by omega
  have z1 : c.toInt < 128 := by omega
  have nn : (-1 : Int32).toInt = -1 := by decide
  have n0 : (0 : Int32).toInt = 0 := by decide
  have n1 : (1 : Int32).toInt = 1 := by decide
  have n2 : (2 : Int32).toInt = 2 := by decide
  have n45 : (45 : Int32).toInt = 45 := by decide
  have n48 : (48 : Int32).toInt = 48 := by decide
  have n50 : (50 : Int32).toInt = 50 := by decide
  have n55 : (55 : Int32).toInt = 55 := by decide
  have n57 : (57 : Int32).toInt = 57 := by decide
  have n62 : (62 : Int32).toInt = 62 := by decide
  have n63 : (63 : Int32).toInt = 63 := by decide
  have n65 : (65 : Int32).toInt = 65 := by decide
  have n90 : (90 : Int32).toInt = 90 := by decide
  have n95 : (95 : Int32).toInt = 95 := by decide
  have n97 : (97 : Int32).toInt = 97 := by decide
  have n102 : (102 : Int32).toInt = 102 := by decide
  have n122 : (122 : Int32).toInt = 122 := by decide
  have e1 := own_sb48 z0 z1
  have e2 := own_sb65 z0 z1
  have e3 := own_sb97 z0 z1
  have e4 := own_sa97_10 z0 z1
  have e5 := own_sa97_26 z0 z1
  have e6 := own_sa50_26 z0 z1
  have e7 := own_sa48_52 z0 z1
  have p0 : ¬ c < (65 : Int32) := by
    rw [Int32.lt_iff_toInt_lt]
    omega
  have p1 : ¬ (90 : Int32) < c := by
    rw [Int32.lt_iff_toInt_lt]
    omega
  have p2 : c < (97 : Int32) := by
    rw [Int32.lt_iff_toInt_lt]
    omega
  have p3 : ¬ (122 : Int32) < c := by
    rw [Int32.lt_iff_toInt_lt]
    omega
  have p4 : ¬ c < (48 : Int32) := by
    rw [Int32.lt_iff_toInt_lt]
    omega
  have p5 : (57 : Int32) < c := by
    rw [Int32.lt_iff_toInt_lt]
    omega
  have p6 : ¬ c = (45 : Int32) := by
    rw [← Int32.toInt_inj]
    omega
  have p7 : ¬ c = (95 : Int32) := by
    rw [← Int32.toInt_inj]
    omega
  unfold f18
  rw [if_neg (by decide : ¬ (2 : Int32) = 0), if_neg (by decide : ¬ (2 : Int32) = 1)]
  simp only [p0, p1, p2, p3, p4, p5, p6, p7, if_true, if_false, ite_self]
  first | omega | (repeat' split; all_goals omega)
theorem own_fv2_7 {c w : Int32} (h0 : 91 ≤ c.toInt) (h1 : c.toInt < 95) (e : w.toInt = -1) : w.toInt = (f18 (2 : Int32) c).toInt := by
  have z0 : 0 ≤ c.toInt := by omega
  have z1 : c.toInt < 128 := by omega
  have nn : (-1 : Int32).toInt = -1 := by decide
  have n0 : (0 : Int32).toInt = 0 := by decide
  have n1 : (1 : Int32).toInt = 1 := by decide
  have n2 : (2 : Int32).toInt = 2 := by decide
  have n45 : (45 : Int32).toInt = 45 := by decide
  have n48 : (48 : Int32).toInt = 48 := by decide
  have n50 : (50 : Int32).toInt = 50 := by decide
  have n55 : (55 : Int32).toInt = 55 := by decide
  have n57 : (57 : Int32).toInt = 57 := by decide
  have n62 : (62 : Int32).toInt = 62 := by decide
  have n63 : (63 : Int32).toInt = 63 := by decide
  have n65 : (65 : Int32).toInt = 65 := by decide
  have n90 : (90 : Int32).toInt = 90 := by decide
  have n95 : (95 : Int32).toInt = 95 := by decide
  have n97 : (97 : Int32).toInt = 97 := by decide
  have n102 : (102 : Int32).toInt = 102 := by decide
  have n122 : (122 : Int32).toInt = 122 := by decide
  have e1 := own_sb48 z0 z1
  have e2 := own_sb65 z0 z1
  have e3 := own_sb97 z0 z1
  have e4 := own_sa97_10 z0 z1
  have e5 := own_sa97_26 z0 z1
  have e6 := own_sa50_26 z0 z1
  have e7 := own_sa48_52 z0 z1
  have p0 : ¬ c < (65 : Int32) := by
    rw [Int32.lt_iff_toInt_lt]
    omega
  have p1 : (90 : Int32) < c := by
    rw [Int32.lt_iff_toInt_lt]
    omega
  have p2 : c < (97 : Int32) := by
    rw [Int32.lt_iff_toInt_lt]
    omega
  have p3 : ¬ (122 : Int32) < c := by
    rw [Int32.lt_iff_toInt_lt]
    omega
  have p4 : ¬ c < (48 : Int32) := by
    rw [Int32.lt_iff_toInt_lt]
    omega
  have p5 : (57 : Int32) < c := by
    rw [Int32.lt_iff_toInt_lt]
    omega
  have p6 : ¬ c = (45 : Int32) := by
    rw [← Int32.toInt_inj]
    omega
  have p7 : ¬ c = (95 : Int32) := by
    rw [← Int32.toInt_inj]
    omega
  unfold f18
  rw [if_neg (by decide : ¬ (2 : Int32) = 0), if_neg (by decide : ¬ (2 : Int32) = 1)]
  simp only [p0, p1, p2, p3, p4, p5, p6, p7, if_true, if_false, ite_self]
  first | omega | (repeat' split; all_goals omega)
theorem own_fv2_8 {c w : Int32} (h0 : 95 ≤ c.toInt) (h1 : c.toInt < 96) (e : w.toInt = 63) : w.toInt = (f18 (2 : Int32) c).toInt := by
  have z0 : 0 ≤ c.toInt := by omega
  have z1 : c.toInt < 128 := by omega
  have nn : (-1 : Int32).toInt = -1 := by decide
  have n0 : (0 : Int32).toInt = 0 := by decide
  have n1 : (1 : Int32).toInt = 1 := by decide
  have n2 : (2 : Int32).toInt = 2 := by decide
  have n45 : (45 : Int32).toInt = 45 := by decide
  have n48 : (48 : Int32).toInt = 48 := by decide
  have n50 : (50 : Int32).toInt = 50 := by decide
  have n55 : (55 : Int32).toInt = 55 := by decide
  have n57 : (57 : Int32).toInt = 57 := by decide
  have n62 : (62 : Int32).toInt = 62 := by decide
  have n63 : (63 : Int32).toInt = 63 := by decide
  have n65 : (65 : Int32).toInt = 65 := by decide
  have n90 : (90 : Int32).toInt = 90 := by decide
  have n95 : (95 : Int32).toInt = 95 := by decide
  have n97 : (97 : Int32).toInt = 97 := by decide
  have n102 : (102 : Int32).toInt = 102 := by decide
  have n122 : (122 : Int32).toInt = 122 := by decide
  have e1 := own_sb48 z0 z1
  have e2 := own_sb65 z0 z1
  have e3 := own_sb97 z0 z1
  have e4 := own_sa97_10 z0 z1
  have e5 := own_sa97_26 z0 z1
  have e6 := own_sa50_26 z0 z1
  have e7 := own_sa48_52 z0 z1
  have p0 : ¬ c < (65 : Int32) := by
    rw [Int32.lt_iff_toInt_lt]
    omega
  have p1 : (90 : Int32) < c := by
    rw [Int32.lt_iff_toInt_lt]
    omega
  have p2 : c < (97 : Int32) := by
    rw [Int32.lt_iff_toInt_lt]
    omega
  have p3 : ¬ (122 : Int32) < c := by
    rw [Int32.lt_iff_toInt_lt]
    omega
  have p4 : ¬ c < (48 : Int32) := by
    rw [Int32.lt_iff_toInt_lt]
    omega
  have p5 : (57 : Int32) < c := by
    rw [Int32.lt_iff_toInt_lt]
    omega
  have p6 : ¬ c = (45 : Int32) := by
    rw [← Int32.toInt_inj]
    omega
  have p7 : c = (95 : Int32) := by
    rw [← Int32.toInt_inj]
    omega
  have pe : c = (95 : Int32) := Int32.toInt_inj.mp (by rw [show (95 : Int32).toInt = 95 by decide]; omega)
  subst pe
  exact e.trans (by decide)
theorem own_fv2_9 {c w : Int32} (h0 : 96 ≤ c.toInt) (h1 : c.toInt < 97) (e : w.toInt = -1) : w.toInt = (f18 (2 : Int32) c).toInt := by
  have z0 : 0 ≤ c.toInt := by omega
  have z1 : c.toInt < 128 := by omega
  have nn : (-1 : Int32).toInt = -1 := by decide
  have n0 : (0 : Int32).toInt = 0 := by decide
  have n1 : (1 : Int32).toInt = 1 := by decide
  have n2 : (2 : Int32).toInt = 2 := by decide
  have n45 : (45 : Int32).toInt = 45 := by decide
  have n48 : (48 : Int32).toInt = 48 := by decide
  have n50 : (50 : Int32).toInt = 50 := by decide
  have n55 : (55 : Int32).toInt = 55 := by decide
  have n57 : (57 : Int32).toInt = 57 := by decide
  have n62 : (62 : Int32).toInt = 62 := by decide
  have n63 : (63 : Int32).toInt = 63 := by decide
  have n65 : (65 : Int32).toInt = 65 := by decide
  have n90 : (90 : Int32).toInt = 90 := by decide
  have n95 : (95 : Int32).toInt = 95 := by decide
  have n97 : (97 : Int32).toInt = 97 := by decide
  have n102 : (102 : Int32).toInt = 102 := by decide
  have n122 : (122 : Int32).toInt = 122 := by decide
  have e1 := own_sb48 z0 z1
  have e2 := own_sb65 z0 z1
  have e3 := own_sb97 z0 z1
  have e4 := own_sa97_10 z0 z1
  have e5 := own_sa97_26 z0 z1
  have e6 := own_sa50_26 z0 z1
  have e7 := own_sa48_52 z0 z1
  have p0 : ¬ c < (65 : Int32) := by
    rw [Int32.lt_iff_toInt_lt]
    omega
  have p1 : (90 : Int32) < c := by
    rw [Int32.lt_iff_toInt_lt]
    omega
  have p2 : c < (97 : Int32) := by
    rw [Int32.lt_iff_toInt_lt]
    omega
  have p3 : ¬ (122 : Int32) < c := by
    rw [Int32.lt_iff_toInt_lt]
    omega
  have p4 : ¬ c < (48 : Int32) := by
    rw [Int32.lt_iff_toInt_lt]
    omega
  have p5 : (57 : Int32) < c := by
    rw [Int32.lt_iff_toInt_lt]
    omega
  have p6 : ¬ c = (45 : Int32) := by
    rw [← Int32.toInt_inj]
    omega
  have p7 : ¬ c = (95 : Int32) := by
    rw [← Int32.toInt_inj]
    omega
  have pe : c = (96 : Int32) := Int32.toInt_inj.mp (by rw [show (96 : Int32).toInt = 96 by decide]; omega)
  subst pe
  exact e.trans (by decide)
theorem own_fv2_10 {c w : Int32} (h0 : 97 ≤ c.toInt) (h1 : c.toInt < 123) (e : w.toInt = c.toInt - 71) : w.toInt = (f18 (2 : Int32) c).toInt := by
  have z0 : 0 ≤ c.toInt := by omega
  have z1 : c.toInt < 128 := by omega
  have nn : (-1 : Int32).toInt = -1 := by decide
  have n0 : (0 : Int32).toInt = 0 := by decide
  have n1 : (1 : Int32).toInt = 1 := by decide
  have n2 : (2 : Int32).toInt = 2 := by decide
  have n45 : (45 : Int32).toInt = 45 := by decide
  have n48 : (48 : Int32).toInt = 48 := by decide
  have n50 : (50 : Int32).toInt = 50 := by decide
  have n55 : (55 : Int32).toInt = 55 := by decide
  have n57 : (57 : Int32).toInt = 57 := by decide
  have n62 : (62 : Int32).toInt = 62 := by decide
  have n63 : (63 : Int32).toInt = 63 := by decide
  have n65 : (65 : Int32).toInt = 65 := by decide
  have n90 : (90 : Int32).toInt = 90 := by decide
  have n95 : (95 : Int32).toInt = 95 := by decide
  have n97 : (97 : Int32).toInt = 97 := by decide
  have n102 : (102 : Int32).toInt = 102 := by decide
  have n122 : (122 : Int32).toInt = 122 := by decide
  have e1 := own_sb48 z0 z1
  have e2 := own_sb65 z0 z1
  have e3 := own_sb97 z0 z1
  have e4 := own_sa97_10 z0 z1
  have e5 := own_sa97_26 z0 z1
  have e6 := own_sa50_26 z0 z1
  have e7 := own_sa48_52 z0 z1
  have p0 : ¬ c < (65 : Int32) := by
    rw [Int32.lt_iff_toInt_lt]
    omega
  have p1 : (90 : Int32) < c := by
    rw [Int32.lt_iff_toInt_lt]
    omega
  have p2 : ¬ c < (97 : Int32) := by
    rw [Int32.lt_iff_toInt_lt]
    omega
  have p3 : ¬ (122 : Int32) < c := by
    rw [Int32.lt_iff_toInt_lt]
    omega
  have p4 : ¬ c < (48 : Int32) := by
    rw [Int32.lt_iff_toInt_lt]
    omega
  have p5 : (57 : Int32) < c := by
    rw [Int32.lt_iff_toInt_lt]
    omega
  have p6 : ¬ c = (45 : Int32) := by
    rw [← Int32.toInt_inj]
    omega
  have p7 : ¬ c = (95 : Int32) := by
    rw [← Int32.toInt_inj]
    omega
  unfold f18
  rw [if_neg (by decide : ¬ (2 : Int32) = 0), if_neg (by decide : ¬ (2 : Int32) = 1)]
  simp only [p0, p1, p2, p3, p4, p5, p6, p7, if_true, if_false, ite_self]
  first | omega | (repeat' split; all_goals omega)
theorem own_fv2_11 {c w : Int32} (h0 : 123 ≤ c.toInt) (h1 : c.toInt < 128) (e : w.toInt = -1) : w.toInt = (f18 (2 : Int32) c).toInt := by
  have z0 : 0 ≤ c.toInt := by omega
  have z1 : c.toInt < 128 := by omega
  have nn : (-1 : Int32).toInt = -1 := by decide
  have n0 : (0 : Int32).toInt = 0 := by decide
  have n1 : (1 : Int32).toInt = 1 := by decide
  have n2 : (2 : Int32).toInt = 2 := by decide
  have n45 : (45 : Int32).toInt = 45 := by decide
  have n48 : (48 : Int32).toInt = 48 := by decide
  have n50 : (50 : Int32).toInt = 50 := by decide
  have n55 : (55 : Int32).toInt = 55 := by decide
  have n57 : (57 : Int32).toInt = 57 := by decide
  have n62 : (62 : Int32).toInt = 62 := by decide
  have n63 : (63 : Int32).toInt = 63 := by decide
  have n65 : (65 : Int32).toInt = 65 := by decide
  have n90 : (90 : Int32).toInt = 90 := by decide
  have n95 : (95 : Int32).toInt = 95 := by decide
  have n97 : (97 : Int32).toInt = 97 := by decide
  have n102 : (102 : Int32).toInt = 102 := by decide
  have n122 : (122 : Int32).toInt = 122 := by decide
  have e1 := own_sb48 z0 z1
  have e2 := own_sb65 z0 z1
  have e3 := own_sb97 z0 z1
  have e4 := own_sa97_10 z0 z1
  have e5 := own_sa97_26 z0 z1
  have e6 := own_sa50_26 z0 z1
  have e7 := own_sa48_52 z0 z1
  have p0 : ¬ c < (65 : Int32) := by
    rw [Int32.lt_iff_toInt_lt]
    omega
  have p1 : (90 : Int32) < c := by
    rw [Int32.lt_iff_toInt_lt]
    omega
  have p2 : ¬ c < (97 : Int32) := by
    rw [Int32.lt_iff_toInt_lt]
    omega
  have p3 : (122 : Int32) < c := by
    rw [Int32.lt_iff_toInt_lt]
    omega
  have p4 : ¬ c < (48 : Int32) := by
    rw [Int32.lt_iff_toInt_lt]
    omega
  have p5 : (57 : Int32) < c := by
    rw [Int32.lt_iff_toInt_lt]
    omega
  have p6 : ¬ c = (45 : Int32) := by
    rw [← Int32.toInt_inj]
    omega
  have p7 : ¬ c = (95 : Int32) := by
    rw [← Int32.toInt_inj]
    omega
  unfold f18
  rw [if_neg (by decide : ¬ (2 : Int32) = 0), if_neg (by decide : ¬ (2 : Int32) = 1)]
  simp only [p0, p1, p2, p3, p4, p5, p6, p7, if_true, if_false, ite_self]
  first | omega | (repeat' split; all_goals omega)
set_option maxRecDepth 65536 in
set_option maxHeartbeats 40000000 in
theorem own_tab_BASE16 {s : State} {args : Array Value} {e : Addr} (hfit : Fit s) (ev : (Jvm.Term.static "com/example/plumbline/plumbline/BaseEncoding" "BASE16" "Lcom/example/plumbline/plumbline/BaseEncoding;").eval args s none [] s = some (.ref e))
    (h1 : ((Jvm.Cond.arrayOf (Jvm.Term.field (Jvm.Term.static "com/example/plumbline/plumbline/BaseEncoding" "BASE16" "Lcom/example/plumbline/plumbline/BaseEncoding;") "com/example/plumbline/plumbline/BaseEncoding" "values" "[I") Jvm.ClassFile.FieldType.int)).value args s none s [] = some true)
    (h2 : ((Jvm.Cond.eq (Jvm.Term.length (Jvm.Term.field (Jvm.Term.static "com/example/plumbline/plumbline/BaseEncoding" "BASE16" "Lcom/example/plumbline/plumbline/BaseEncoding;") "com/example/plumbline/plumbline/BaseEncoding" "values" "[I")) (Jvm.Term.int (128 : Int32)))).value args s none s [] = some true)
    (h12 : ((Jvm.Cond.all (Jvm.Term.field (Jvm.Term.static "com/example/plumbline/plumbline/BaseEncoding" "BASE16" "Lcom/example/plumbline/plumbline/BaseEncoding;") "com/example/plumbline/plumbline/BaseEncoding" "values" "[I") (Jvm.Cond.or (Jvm.Cond.le (Jvm.Term.int (48 : Int32)) (Jvm.Term.index (0 : Nat))) (Jvm.Cond.eq (Jvm.Term.elem (Jvm.Term.field (Jvm.Term.static "com/example/plumbline/plumbline/BaseEncoding" "BASE16" "Lcom/example/plumbline/plumbline/BaseEncoding;") "com/example/plumbline/plumbline/BaseEncoding" "values" "[I") (Jvm.Term.index (0 : Nat))) (Jvm.Term.int (-1 : Int32)))))).value args s none s [] = some true)
    (h13 : ((Jvm.Cond.all (Jvm.Term.field (Jvm.Term.static "com/example/plumbline/plumbline/BaseEncoding" "BASE16" "Lcom/example/plumbline/plumbline/BaseEncoding;") "com/example/plumbline/plumbline/BaseEncoding" "values" "[I") (Jvm.Cond.or (Jvm.Cond.lt (Jvm.Term.index (0 : Nat)) (Jvm.Term.int (48 : Int32))) (Jvm.Cond.or (Jvm.Cond.le (Jvm.Term.int (58 : Int32)) (Jvm.Term.index (0 : Nat))) (Jvm.Cond.eq (Jvm.Term.elem (Jvm.Term.field (Jvm.Term.static "com/example/plumbline/plumbline/BaseEncoding" "BASE16" "Lcom/example/plumbline/plumbline/BaseEncoding;") "com/example/plumbline/plumbline/BaseEncoding" "values" "[I") (Jvm.Term.index (0 : Nat))) (Jvm.Term.sub (Jvm.Term.index (0 : Nat)) (Jvm.Term.int (48 : Int32)))))))).value args s none s [] = some true)
    (h14 : ((Jvm.Cond.all (Jvm.Term.field (Jvm.Term.static "com/example/plumbline/plumbline/BaseEncoding" "BASE16" "Lcom/example/plumbline/plumbline/BaseEncoding;") "com/example/plumbline/plumbline/BaseEncoding" "values" "[I") (Jvm.Cond.or (Jvm.Cond.lt (Jvm.Term.index (0 : Nat)) (Jvm.Term.int (58 : Int32))) (Jvm.Cond.or (Jvm.Cond.le (Jvm.Term.int (97 : Int32)) (Jvm.Term.index (0 : Nat))) (Jvm.Cond.eq (Jvm.Term.elem (Jvm.Term.field (Jvm.Term.static "com/example/plumbline/plumbline/BaseEncoding" "BASE16" "Lcom/example/plumbline/plumbline/BaseEncoding;") "com/example/plumbline/plumbline/BaseEncoding" "values" "[I") (Jvm.Term.index (0 : Nat))) (Jvm.Term.int (-1 : Int32))))))).value args s none s [] = some true)
    (h15 : ((Jvm.Cond.all (Jvm.Term.field (Jvm.Term.static "com/example/plumbline/plumbline/BaseEncoding" "BASE16" "Lcom/example/plumbline/plumbline/BaseEncoding;") "com/example/plumbline/plumbline/BaseEncoding" "values" "[I") (Jvm.Cond.or (Jvm.Cond.lt (Jvm.Term.index (0 : Nat)) (Jvm.Term.int (97 : Int32))) (Jvm.Cond.or (Jvm.Cond.le (Jvm.Term.int (103 : Int32)) (Jvm.Term.index (0 : Nat))) (Jvm.Cond.eq (Jvm.Term.elem (Jvm.Term.field (Jvm.Term.static "com/example/plumbline/plumbline/BaseEncoding" "BASE16" "Lcom/example/plumbline/plumbline/BaseEncoding;") "com/example/plumbline/plumbline/BaseEncoding" "values" "[I") (Jvm.Term.index (0 : Nat))) (Jvm.Term.sub (Jvm.Term.index (0 : Nat)) (Jvm.Term.int (87 : Int32)))))))).value args s none s [] = some true)
    (h16 : ((Jvm.Cond.all (Jvm.Term.field (Jvm.Term.static "com/example/plumbline/plumbline/BaseEncoding" "BASE16" "Lcom/example/plumbline/plumbline/BaseEncoding;") "com/example/plumbline/plumbline/BaseEncoding" "values" "[I") (Jvm.Cond.or (Jvm.Cond.lt (Jvm.Term.index (0 : Nat)) (Jvm.Term.int (103 : Int32))) (Jvm.Cond.eq (Jvm.Term.elem (Jvm.Term.field (Jvm.Term.static "com/example/plumbline/plumbline/BaseEncoding" "BASE16" "Lcom/example/plumbline/plumbline/BaseEncoding;") "com/example/plumbline/plumbline/BaseEncoding" "values" "[I") (Jvm.Term.index (0 : Nat))) (Jvm.Term.int (-1 : Int32)))))).value args s none s [] = some true) : ∃ t : Addr, Fld s s.heap e "com/example/plumbline/plumbline/BaseEncoding" "values" "[I" (.ref t) ∧ Tab s s.heap t (0 : Int32) := by
  obtain ⟨x, z, e1, -⟩ := cmp_v (Or.inl h2)
  obtain ⟨t, et⟩ := len_v e1
  obtain ⟨a, cell, e2, hc, harr, hvm⟩ := Jvm.Free.IntBox.arrayOf_fwd (Cond.before_iff.mpr h1) et
  cases e2
  have hat := Jvm.Free.IntBox.arrayAt_of hc harr hvm
  obtain ⟨l1, l2⟩ := Jvm.Free.IntBox.length_fwd (Cond.before_iff.mpr h2) et hc harr hvm
  have hsz : cell.slots.size = 128 := by
    have q := len_toInt l1
    rw [l2] at q
    have o128 : (128 : Int32).toInt = 128 := by decide
    omega
  refine ⟨t, Fld.start ((fld_at ev).symm.trans et), cell, ⟨hc, harr, hvm⟩, hsz, fun c h0 hc1 => ?_⟩
  have hin := own_in hsz h0 hc1
  have hlt : c.toNatClampNeg < cell.slots.size := Nat.lt_of_not_le fun q => hin (Or.inr q)
  obtain ⟨v, ev', fv⟩ := elem_fit hfit ⟨hc, harr, hvm⟩ hin
  obtain ⟨w, rfl⟩ : ∃ w, v = .int w := by
    cases v <;> first | exact ⟨_, rfl⟩ | (simp [fits] at fv)
  have hi := idx_at (args := args) (first := s) (o := none) (s := s) h0
  have het : (Jvm.Term.field (Jvm.Term.static "com/example/plumbline/plumbline/BaseEncoding" "BASE16" "Lcom/example/plumbline/plumbline/BaseEncoding;") "com/example/plumbline/plumbline/BaseEncoding" "values" "[I").eval args s none [c.toNatClampNeg] s = some (.ref t) := et
  have he := (elem_f (a := .index 0) het hi hat h0).trans ev'
  have I : ∀ (k : Int32) (idx : List Nat), (Term.int k).eval args s none idx s = some (.int k) := fun k idx => Term.int_eval k
  have k12 : ((48 : Int32) ≤ c ∨ w = (-1 : Int32)) := own_dec (own_vor (own_vle (I 48 _) hi) (own_veq he (I (-1) _))) (Cond.all_elim et hat h12 c.toNatClampNeg hlt)
  have k13 : (c < (48 : Int32) ∨ ((58 : Int32) ≤ c ∨ w = (c - (48 : Int32)))) := own_dec (own_vor (own_vlt hi (I 48 _)) (own_vor (own_vle (I 58 _) hi) (own_veq he (own_vsub hi (I 48 _))))) (Cond.all_elim et hat h13 c.toNatClampNeg hlt)
  have k14 : (c < (58 : Int32) ∨ ((97 : Int32) ≤ c ∨ w = (-1 : Int32))) := own_dec (own_vor (own_vlt hi (I 58 _)) (own_vor (own_vle (I 97 _) hi) (own_veq he (I (-1) _)))) (Cond.all_elim et hat h14 c.toNatClampNeg hlt)
  have k15 : (c < (97 : Int32) ∨ ((103 : Int32) ≤ c ∨ w = (c - (87 : Int32)))) := own_dec (own_vor (own_vlt hi (I 97 _)) (own_vor (own_vle (I 103 _) hi) (own_veq he (own_vsub hi (I 87 _))))) (Cond.all_elim et hat h15 c.toNatClampNeg hlt)
  have k16 : (c < (103 : Int32) ∨ w = (-1 : Int32)) := own_dec (own_vor (own_vlt hi (I 103 _)) (own_veq he (I (-1) _))) (Cond.all_elim et hat h16 c.toNatClampNeg hlt)
  have cn48 : (48 : Int32).toInt = 48 := by decide
  have cn48 : (48 : Int32).toInt = 48 := by decide
  have cn58 : (58 : Int32).toInt = 58 := by decide
  have cn58 : (58 : Int32).toInt = 58 := by decide
  have cn97 : (97 : Int32).toInt = 97 := by decide
  have cn97 : (97 : Int32).toInt = 97 := by decide
  have cn103 : (103 : Int32).toInt = 103 := by decide
  have cn103 : (103 : Int32).toInt = 103 := by decide
  have h0' : 0 ≤ c.toInt := by
    rw [Int32.lt_iff_toInt_lt] at h0
    have z : (0 : Int32).toInt = 0 := by decide
    omega
  have hc1' : c.toInt < 128 := by
    rw [Int32.lt_iff_toInt_lt] at hc1
    have z : (128 : Int32).toInt = 128 := by decide
    omega
  have dd : (0 ≤ c.toInt ∧ c.toInt < 48) ∨ (48 ≤ c.toInt ∧ c.toInt < 58) ∨ (58 ≤ c.toInt ∧ c.toInt < 97) ∨ (97 ≤ c.toInt ∧ c.toInt < 103) ∨ (103 ≤ c.toInt ∧ c.toInt < 128) := by clear k12 k13 k14 k15 k16; omega
  refine ev'.trans (congrArg (fun z => some (Value.int z)) (Int32.toInt_inj.mp ?_))
  rcases dd with ⟨d1, d2⟩ | ⟨d1, d2⟩ | ⟨d1, d2⟩ | ⟨d1, d2⟩ | ⟨d1, d2⟩
  · exact own_fv0_0 d1 d2 ((congrArg Int32.toInt (k12.resolve_left (fun q => absurd (Int32.le_iff_toInt_le.mp q) (by rw [cn48]; omega)))).trans (by decide))
  · exact own_fv0_1 d1 d2 ((congrArg Int32.toInt ((k13.resolve_left (fun q => absurd (Int32.lt_iff_toInt_lt.mp q) (by rw [cn48]; omega))).resolve_left (fun q => absurd (Int32.le_iff_toInt_le.mp q) (by rw [cn58]; omega)))).trans (own_sb48 h0' hc1'))
  · exact own_fv0_2 d1 d2 ((congrArg Int32.toInt ((k14.resolve_left (fun q => absurd (Int32.lt_iff_toInt_lt.mp q) (by rw [cn58]; omega))).resolve_left (fun q => absurd (Int32.le_iff_toInt_le.mp q) (by rw [cn97]; omega)))).trans (by decide))
  · exact own_fv0_3 d1 d2 ((congrArg Int32.toInt ((k15.resolve_left (fun q => absurd (Int32.lt_iff_toInt_lt.mp q) (by rw [cn97]; omega))).resolve_left (fun q => absurd (Int32.le_iff_toInt_le.mp q) (by rw [cn103]; omega)))).trans (own_sb87 h0' hc1'))
  · exact own_fv0_4 d1 d2 ((congrArg Int32.toInt (k16.resolve_left (fun q => absurd (Int32.lt_iff_toInt_lt.mp q) (by rw [cn103]; omega)))).trans (by decide))
set_option maxRecDepth 65536 in
set_option maxHeartbeats 40000000 in
theorem own_tab_BASE32 {s : State} {args : Array Value} {e : Addr} (hfit : Fit s) (ev : (Jvm.Term.static "com/example/plumbline/plumbline/BaseEncoding" "BASE32" "Lcom/example/plumbline/plumbline/BaseEncoding;").eval args s none [] s = some (.ref e))
    (h9 : ((Jvm.Cond.arrayOf (Jvm.Term.field (Jvm.Term.static "com/example/plumbline/plumbline/BaseEncoding" "BASE32" "Lcom/example/plumbline/plumbline/BaseEncoding;") "com/example/plumbline/plumbline/BaseEncoding" "values" "[I") Jvm.ClassFile.FieldType.int)).value args s none s [] = some true)
    (h10 : ((Jvm.Cond.eq (Jvm.Term.length (Jvm.Term.field (Jvm.Term.static "com/example/plumbline/plumbline/BaseEncoding" "BASE32" "Lcom/example/plumbline/plumbline/BaseEncoding;") "com/example/plumbline/plumbline/BaseEncoding" "values" "[I")) (Jvm.Term.int (128 : Int32)))).value args s none s [] = some true)
    (h29 : ((Jvm.Cond.all (Jvm.Term.field (Jvm.Term.static "com/example/plumbline/plumbline/BaseEncoding" "BASE32" "Lcom/example/plumbline/plumbline/BaseEncoding;") "com/example/plumbline/plumbline/BaseEncoding" "values" "[I") (Jvm.Cond.or (Jvm.Cond.le (Jvm.Term.int (50 : Int32)) (Jvm.Term.index (0 : Nat))) (Jvm.Cond.eq (Jvm.Term.elem (Jvm.Term.field (Jvm.Term.static "com/example/plumbline/plumbline/BaseEncoding" "BASE32" "Lcom/example/plumbline/plumbline/BaseEncoding;") "com/example/plumbline/plumbline/BaseEncoding" "values" "[I") (Jvm.Term.index (0 : Nat))) (Jvm.Term.int (-1 : Int32)))))).value args s none s [] = some true)
    (h30 : ((Jvm.Cond.all (Jvm.Term.field (Jvm.Term.static "com/example/plumbline/plumbline/BaseEncoding" "BASE32" "Lcom/example/plumbline/plumbline/BaseEncoding;") "com/example/plumbline/plumbline/BaseEncoding" "values" "[I") (Jvm.Cond.or (Jvm.Cond.lt (Jvm.Term.index (0 : Nat)) (Jvm.Term.int (50 : Int32))) (Jvm.Cond.or (Jvm.Cond.le (Jvm.Term.int (56 : Int32)) (Jvm.Term.index (0 : Nat))) (Jvm.Cond.eq (Jvm.Term.elem (Jvm.Term.field (Jvm.Term.static "com/example/plumbline/plumbline/BaseEncoding" "BASE32" "Lcom/example/plumbline/plumbline/BaseEncoding;") "com/example/plumbline/plumbline/BaseEncoding" "values" "[I") (Jvm.Term.index (0 : Nat))) (Jvm.Term.sub (Jvm.Term.index (0 : Nat)) (Jvm.Term.int (24 : Int32)))))))).value args s none s [] = some true)
    (h31 : ((Jvm.Cond.all (Jvm.Term.field (Jvm.Term.static "com/example/plumbline/plumbline/BaseEncoding" "BASE32" "Lcom/example/plumbline/plumbline/BaseEncoding;") "com/example/plumbline/plumbline/BaseEncoding" "values" "[I") (Jvm.Cond.or (Jvm.Cond.lt (Jvm.Term.index (0 : Nat)) (Jvm.Term.int (56 : Int32))) (Jvm.Cond.or (Jvm.Cond.le (Jvm.Term.int (97 : Int32)) (Jvm.Term.index (0 : Nat))) (Jvm.Cond.eq (Jvm.Term.elem (Jvm.Term.field (Jvm.Term.static "com/example/plumbline/plumbline/BaseEncoding" "BASE32" "Lcom/example/plumbline/plumbline/BaseEncoding;") "com/example/plumbline/plumbline/BaseEncoding" "values" "[I") (Jvm.Term.index (0 : Nat))) (Jvm.Term.int (-1 : Int32))))))).value args s none s [] = some true)
    (h32 : ((Jvm.Cond.all (Jvm.Term.field (Jvm.Term.static "com/example/plumbline/plumbline/BaseEncoding" "BASE32" "Lcom/example/plumbline/plumbline/BaseEncoding;") "com/example/plumbline/plumbline/BaseEncoding" "values" "[I") (Jvm.Cond.or (Jvm.Cond.lt (Jvm.Term.index (0 : Nat)) (Jvm.Term.int (97 : Int32))) (Jvm.Cond.or (Jvm.Cond.le (Jvm.Term.int (123 : Int32)) (Jvm.Term.index (0 : Nat))) (Jvm.Cond.eq (Jvm.Term.elem (Jvm.Term.field (Jvm.Term.static "com/example/plumbline/plumbline/BaseEncoding" "BASE32" "Lcom/example/plumbline/plumbline/BaseEncoding;") "com/example/plumbline/plumbline/BaseEncoding" "values" "[I") (Jvm.Term.index (0 : Nat))) (Jvm.Term.sub (Jvm.Term.index (0 : Nat)) (Jvm.Term.int (97 : Int32)))))))).value args s none s [] = some true)
    (h33 : ((Jvm.Cond.all (Jvm.Term.field (Jvm.Term.static "com/example/plumbline/plumbline/BaseEncoding" "BASE32" "Lcom/example/plumbline/plumbline/BaseEncoding;") "com/example/plumbline/plumbline/BaseEncoding" "values" "[I") (Jvm.Cond.or (Jvm.Cond.lt (Jvm.Term.index (0 : Nat)) (Jvm.Term.int (123 : Int32))) (Jvm.Cond.eq (Jvm.Term.elem (Jvm.Term.field (Jvm.Term.static "com/example/plumbline/plumbline/BaseEncoding" "BASE32" "Lcom/example/plumbline/plumbline/BaseEncoding;") "com/example/plumbline/plumbline/BaseEncoding" "values" "[I") (Jvm.Term.index (0 : Nat))) (Jvm.Term.int (-1 : Int32)))))).value args s none s [] = some true) : ∃ t : Addr, Fld s s.heap e "com/example/plumbline/plumbline/BaseEncoding" "values" "[I" (.ref t) ∧ Tab s s.heap t (1 : Int32) := by
  obtain ⟨x, z, e1, -⟩ := cmp_v (Or.inl h10)
  obtain ⟨t, et⟩ := len_v e1
  obtain ⟨a, cell, e2, hc, harr, hvm⟩ := Jvm.Free.IntBox.arrayOf_fwd (Cond.before_iff.mpr h9) et
  cases e2
  have hat := Jvm.Free.IntBox.arrayAt_of hc harr hvm
  obtain ⟨l1, l2⟩ := Jvm.Free.IntBox.length_fwd (Cond.before_iff.mpr h10) et hc harr hvm
  have hsz : cell.slots.size = 128 := by
    have q := len_toInt l1
    rw [l2] at q
    have o128 : (128 : Int32).toInt = 128 := by decide
    omega
  refine ⟨t, Fld.start ((fld_at ev).symm.trans et), cell, ⟨hc, harr, hvm⟩, hsz, fun c h0 hc1 => ?_⟩
  have hin := own_in hsz h0 hc1
  have hlt : c.toNatClampNeg < cell.slots.size := Nat.lt_of_not_le fun q => hin (Or.inr q)
  obtain ⟨v, ev', fv⟩ := elem_fit hfit ⟨hc, harr, hvm⟩ hin
  obtain ⟨w, rfl⟩ : ∃ w, v = .int w := by
    cases v <;> first | exact ⟨_, rfl⟩ | (simp [fits] at fv)
  have hi := idx_at (args := args) (first := s) (o := none) (s := s) h0
  have het : (Jvm.Term.field (Jvm.Term.static "com/example/plumbline/plumbline/BaseEncoding" "BASE32" "Lcom/example/plumbline/plumbline/BaseEncoding;") "com/example/plumbline/plumbline/BaseEncoding" "values" "[I").eval args s none [c.toNatClampNeg] s = some (.ref t) := et
  have he := (elem_f (a := .index 0) het hi hat h0).trans ev'
  have I : ∀ (k : Int32) (idx : List Nat), (Term.int k).eval args s none idx s = some (.int k) := fun k idx => Term.int_eval k
  have k29 : ((50 : Int32) ≤ c ∨ w = (-1 : Int32)) := own_dec (own_vor (own_vle (I 50 _) hi) (own_veq he (I (-1) _))) (Cond.all_elim et hat h29 c.toNatClampNeg hlt)
  have k30 : (c < (50 : Int32) ∨ ((56 : Int32) ≤ c ∨ w = (c - (24 : Int32)))) := own_dec (own_vor (own_vlt hi (I 50 _)) (own_vor (own_vle (I 56 _) hi) (own_veq he (own_vsub hi (I 24 _))))) (Cond.all_elim et hat h30 c.toNatClampNeg hlt)
  have k31 : (c < (56 : Int32) ∨ ((97 : Int32) ≤ c ∨ w = (-1 : Int32))) := own_dec (own_vor (own_vlt hi (I 56 _)) (own_vor (own_vle (I 97 _) hi) (own_veq he (I (-1) _)))) (Cond.all_elim et hat h31 c.toNatClampNeg hlt)
  have k32 : (c < (97 : Int32) ∨ ((123 : Int32) ≤ c ∨ w = (c - (97 : Int32)))) := own_dec (own_vor (own_vlt hi (I 97 _)) (own_vor (own_vle (I 123 _) hi) (own_veq he (own_vsub hi (I 97 _))))) (Cond.all_elim et hat h32 c.toNatClampNeg hlt)
  have k33 : (c < (123 : Int32) ∨ w = (-1 : Int32)) := own_dec (own_vor (own_vlt hi (I 123 _)) (own_veq he (I (-1) _))) (Cond.all_elim et hat h33 c.toNatClampNeg hlt)
  have cn50 : (50 : Int32).toInt = 50 := by decide
  have cn50 : (50 : Int32).toInt = 50 := by decide
  have cn56 : (56 : Int32).toInt = 56 := by decide
  have cn56 : (56 : Int32).toInt = 56 := by decide
  have cn97 : (97 : Int32).toInt = 97 := by decide
  have cn97 : (97 : Int32).toInt = 97 := by decide
  have cn123 : (123 : Int32).toInt = 123 := by decide
  have cn123 : (123 : Int32).toInt = 123 := by decide
  have h0' : 0 ≤ c.toInt := by
    rw [Int32.lt_iff_toInt_lt] at h0
    have z : (0 : Int32).toInt = 0 := by decide
    omega
  have hc1' : c.toInt < 128 := by
    rw [Int32.lt_iff_toInt_lt] at hc1
    have z : (128 : Int32).toInt = 128 := by decide
    omega
  have dd : (0 ≤ c.toInt ∧ c.toInt < 50) ∨ (50 ≤ c.toInt ∧ c.toInt < 56) ∨ (56 ≤ c.toInt ∧ c.toInt < 97) ∨ (97 ≤ c.toInt ∧ c.toInt < 123) ∨ (123 ≤ c.toInt ∧ c.toInt < 128) := by clear k29 k30 k31 k32 k33; omega
  refine ev'.trans (congrArg (fun z => some (Value.int z)) (Int32.toInt_inj.mp ?_))
  rcases dd with ⟨d1, d2⟩ | ⟨d1, d2⟩ | ⟨d1, d2⟩ | ⟨d1, d2⟩ | ⟨d1, d2⟩
  · exact own_fv1_0 d1 d2 ((congrArg Int32.toInt (k29.resolve_left (fun q => absurd (Int32.le_iff_toInt_le.mp q) (by rw [cn50]; omega)))).trans (by decide))
  · exact own_fv1_1 d1 d2 ((congrArg Int32.toInt ((k30.resolve_left (fun q => absurd (Int32.lt_iff_toInt_lt.mp q) (by rw [cn50]; omega))).resolve_left (fun q => absurd (Int32.le_iff_toInt_le.mp q) (by rw [cn56]; omega)))).trans (own_sb24 h0' hc1'))
  · exact own_fv1_2 d1 d2 ((congrArg Int32.toInt ((k31.resolve_left (fun q => absurd (Int32.lt_iff_toInt_lt.mp q) (by rw [cn56]; omega))).resolve_left (fun q => absurd (Int32.le_iff_toInt_le.mp q) (by rw [cn97]; omega)))).trans (by decide))
  · exact own_fv1_3 d1 d2 ((congrArg Int32.toInt ((k32.resolve_left (fun q => absurd (Int32.lt_iff_toInt_lt.mp q) (by rw [cn97]; omega))).resolve_left (fun q => absurd (Int32.le_iff_toInt_le.mp q) (by rw [cn123]; omega)))).trans (own_sb97 h0' hc1'))
  · exact own_fv1_4 d1 d2 ((congrArg Int32.toInt (k33.resolve_left (fun q => absurd (Int32.lt_iff_toInt_lt.mp q) (by rw [cn123]; omega)))).trans (by decide))
set_option maxRecDepth 65536 in
set_option maxHeartbeats 40000000 in
theorem own_tab_BASE64URL {s : State} {args : Array Value} {e : Addr} (hfit : Fit s) (ev : (Jvm.Term.static "com/example/plumbline/plumbline/BaseEncoding" "BASE64URL" "Lcom/example/plumbline/plumbline/BaseEncoding;").eval args s none [] s = some (.ref e))
    (h5 : ((Jvm.Cond.arrayOf (Jvm.Term.field (Jvm.Term.static "com/example/plumbline/plumbline/BaseEncoding" "BASE64URL" "Lcom/example/plumbline/plumbline/BaseEncoding;") "com/example/plumbline/plumbline/BaseEncoding" "values" "[I") Jvm.ClassFile.FieldType.int)).value args s none s [] = some true)
    (h6 : ((Jvm.Cond.eq (Jvm.Term.length (Jvm.Term.field (Jvm.Term.static "com/example/plumbline/plumbline/BaseEncoding" "BASE64URL" "Lcom/example/plumbline/plumbline/BaseEncoding;") "com/example/plumbline/plumbline/BaseEncoding" "values" "[I")) (Jvm.Term.int (128 : Int32)))).value args s none s [] = some true)
    (h17 : ((Jvm.Cond.all (Jvm.Term.field (Jvm.Term.static "com/example/plumbline/plumbline/BaseEncoding" "BASE64URL" "Lcom/example/plumbline/plumbline/BaseEncoding;") "com/example/plumbline/plumbline/BaseEncoding" "values" "[I") (Jvm.Cond.or (Jvm.Cond.le (Jvm.Term.int (45 : Int32)) (Jvm.Term.index (0 : Nat))) (Jvm.Cond.eq (Jvm.Term.elem (Jvm.Term.field (Jvm.Term.static "com/example/plumbline/plumbline/BaseEncoding" "BASE64URL" "Lcom/example/plumbline/plumbline/BaseEncoding;") "com/example/plumbline/plumbline/BaseEncoding" "values" "[I") (Jvm.Term.index (0 : Nat))) (Jvm.Term.int (-1 : Int32)))))).value args s none s [] = some true)
    (h18 : ((Jvm.Cond.eq (Jvm.Term.elem (Jvm.Term.field (Jvm.Term.static "com/example/plumbline/plumbline/BaseEncoding" "BASE64URL" "Lcom/example/plumbline/plumbline/BaseEncoding;") "com/example/plumbline/plumbline/BaseEncoding" "values" "[I") (Jvm.Term.int (45 : Int32))) (Jvm.Term.int (62 : Int32)))).value args s none s [] = some true)
    (h19 : ((Jvm.Cond.eq (Jvm.Term.elem (Jvm.Term.field (Jvm.Term.static "com/example/plumbline/plumbline/BaseEncoding" "BASE64URL" "Lcom/example/plumbline/plumbline/BaseEncoding;") "com/example/plumbline/plumbline/BaseEncoding" "values" "[I") (Jvm.Term.int (46 : Int32))) (Jvm.Term.int (-1 : Int32)))).value args s none s [] = some true)
    (h20 : ((Jvm.Cond.eq (Jvm.Term.elem (Jvm.Term.field (Jvm.Term.static "com/example/plumbline/plumbline/BaseEncoding" "BASE64URL" "Lcom/example/plumbline/plumbline/BaseEncoding;") "com/example/plumbline/plumbline/BaseEncoding" "values" "[I") (Jvm.Term.int (47 : Int32))) (Jvm.Term.int (-1 : Int32)))).value args s none s [] = some true)
    (h21 : ((Jvm.Cond.all (Jvm.Term.field (Jvm.Term.static "com/example/plumbline/plumbline/BaseEncoding" "BASE64URL" "Lcom/example/plumbline/plumbline/BaseEncoding;") "com/example/plumbline/plumbline/BaseEncoding" "values" "[I") (Jvm.Cond.or (Jvm.Cond.lt (Jvm.Term.index (0 : Nat)) (Jvm.Term.int (48 : Int32))) (Jvm.Cond.or (Jvm.Cond.le (Jvm.Term.int (58 : Int32)) (Jvm.Term.index (0 : Nat))) (Jvm.Cond.eq (Jvm.Term.op1 Jvm.Unary.i2l (Jvm.Term.elem (Jvm.Term.field (Jvm.Term.static "com/example/plumbline/plumbline/BaseEncoding" "BASE64URL" "Lcom/example/plumbline/plumbline/BaseEncoding;") "com/example/plumbline/plumbline/BaseEncoding" "values" "[I") (Jvm.Term.index (0 : Nat)))) (Jvm.Term.op2 Jvm.Binary.ladd (Jvm.Term.op1 Jvm.Unary.i2l (Jvm.Term.index (0 : Nat))) (Jvm.Term.long (4 : Int64)))))))).value args s none s [] = some true)
    (h22 : ((Jvm.Cond.all (Jvm.Term.field (Jvm.Term.static "com/example/plumbline/plumbline/BaseEncoding" "BASE64URL" "Lcom/example/plumbline/plumbline/BaseEncoding;") "com/example/plumbline/plumbline/BaseEncoding" "values" "[I") (Jvm.Cond.or (Jvm.Cond.lt (Jvm.Term.index (0 : Nat)) (Jvm.Term.int (58 : Int32))) (Jvm.Cond.or (Jvm.Cond.le (Jvm.Term.int (65 : Int32)) (Jvm.Term.index (0 : Nat))) (Jvm.Cond.eq (Jvm.Term.elem (Jvm.Term.field (Jvm.Term.static "com/example/plumbline/plumbline/BaseEncoding" "BASE64URL" "Lcom/example/plumbline/plumbline/BaseEncoding;") "com/example/plumbline/plumbline/BaseEncoding" "values" "[I") (Jvm.Term.index (0 : Nat))) (Jvm.Term.int (-1 : Int32))))))).value args s none s [] = some true)
    (h23 : ((Jvm.Cond.all (Jvm.Term.field (Jvm.Term.static "com/example/plumbline/plumbline/BaseEncoding" "BASE64URL" "Lcom/example/plumbline/plumbline/BaseEncoding;") "com/example/plumbline/plumbline/BaseEncoding" "values" "[I") (Jvm.Cond.or (Jvm.Cond.lt (Jvm.Term.index (0 : Nat)) (Jvm.Term.int (65 : Int32))) (Jvm.Cond.or (Jvm.Cond.le (Jvm.Term.int (91 : Int32)) (Jvm.Term.index (0 : Nat))) (Jvm.Cond.eq (Jvm.Term.elem (Jvm.Term.field (Jvm.Term.static "com/example/plumbline/plumbline/BaseEncoding" "BASE64URL" "Lcom/example/plumbline/plumbline/BaseEncoding;") "com/example/plumbline/plumbline/BaseEncoding" "values" "[I") (Jvm.Term.index (0 : Nat))) (Jvm.Term.sub (Jvm.Term.index (0 : Nat)) (Jvm.Term.int (65 : Int32)))))))).value args s none s [] = some true)
    (h24 : ((Jvm.Cond.all (Jvm.Term.field (Jvm.Term.static "com/example/plumbline/plumbline/BaseEncoding" "BASE64URL" "Lcom/example/plumbline/plumbline/BaseEncoding;") "com/example/plumbline/plumbline/BaseEncoding" "values" "[I") (Jvm.Cond.or (Jvm.Cond.lt (Jvm.Term.index (0 : Nat)) (Jvm.Term.int (91 : Int32))) (Jvm.Cond.or (Jvm.Cond.le (Jvm.Term.int (95 : Int32)) (Jvm.Term.index (0 : Nat))) (Jvm.Cond.eq (Jvm.Term.elem (Jvm.Term.field (Jvm.Term.static "com/example/plumbline/plumbline/BaseEncoding" "BASE64URL" "Lcom/example/plumbline/plumbline/BaseEncoding;") "com/example/plumbline/plumbline/BaseEncoding" "values" "[I") (Jvm.Term.index (0 : Nat))) (Jvm.Term.int (-1 : Int32))))))).value args s none s [] = some true)
    (h25 : ((Jvm.Cond.eq (Jvm.Term.elem (Jvm.Term.field (Jvm.Term.static "com/example/plumbline/plumbline/BaseEncoding" "BASE64URL" "Lcom/example/plumbline/plumbline/BaseEncoding;") "com/example/plumbline/plumbline/BaseEncoding" "values" "[I") (Jvm.Term.int (95 : Int32))) (Jvm.Term.int (63 : Int32)))).value args s none s [] = some true)
    (h26 : ((Jvm.Cond.eq (Jvm.Term.elem (Jvm.Term.field (Jvm.Term.static "com/example/plumbline/plumbline/BaseEncoding" "BASE64URL" "Lcom/example/plumbline/plumbline/BaseEncoding;") "com/example/plumbline/plumbline/BaseEncoding" "values" "[I") (Jvm.Term.int (96 : Int32))) (Jvm.Term.int (-1 : Int32)))).value args s none s [] = some true)
    (h27 : ((Jvm.Cond.all (Jvm.Term.field (Jvm.Term.static "com/example/plumbline/plumbline/BaseEncoding" "BASE64URL" "Lcom/example/plumbline/plumbline/BaseEncoding;") "com/example/plumbline/plumbline/BaseEncoding" "values" "[I") (Jvm.Cond.or (Jvm.Cond.lt (Jvm.Term.index (0 : Nat)) (Jvm.Term.int (97 : Int32))) (Jvm.Cond.or (Jvm.Cond.le (Jvm.Term.int (123 : Int32)) (Jvm.Term.index (0 : Nat))) (Jvm.Cond.eq (Jvm.Term.elem (Jvm.Term.field (Jvm.Term.static "com/example/plumbline/plumbline/BaseEncoding" "BASE64URL" "Lcom/example/plumbline/plumbline/BaseEncoding;") "com/example/plumbline/plumbline/BaseEncoding" "values" "[I") (Jvm.Term.index (0 : Nat))) (Jvm.Term.sub (Jvm.Term.index (0 : Nat)) (Jvm.Term.int (71 : Int32)))))))).value args s none s [] = some true)
    (h28 : ((Jvm.Cond.all (Jvm.Term.field (Jvm.Term.static "com/example/plumbline/plumbline/BaseEncoding" "BASE64URL" "Lcom/example/plumbline/plumbline/BaseEncoding;") "com/example/plumbline/plumbline/BaseEncoding" "values" "[I") (Jvm.Cond.or (Jvm.Cond.lt (Jvm.Term.index (0 : Nat)) (Jvm.Term.int (123 : Int32))) (Jvm.Cond.eq (Jvm.Term.elem (Jvm.Term.field (Jvm.Term.static "com/example/plumbline/plumbline/BaseEncoding" "BASE64URL" "Lcom/example/plumbline/plumbline/BaseEncoding;") "com/example/plumbline/plumbline/BaseEncoding" "values" "[I") (Jvm.Term.index (0 : Nat))) (Jvm.Term.int (-1 : Int32)))))).value args s none s [] = some true) : ∃ t : Addr, Fld s s.heap e "com/example/plumbline/plumbline/BaseEncoding" "values" "[I" (.ref t) ∧ Tab s s.heap t (2 : Int32) := by
  obtain ⟨x, z, e1, -⟩ := cmp_v (Or.inl h6)
  obtain ⟨t, et⟩ := len_v e1
  obtain ⟨a, cell, e2, hc, harr, hvm⟩ := Jvm.Free.IntBox.arrayOf_fwd (Cond.before_iff.mpr h5) et
  cases e2
  have hat := Jvm.Free.IntBox.arrayAt_of hc harr hvm
  obtain ⟨l1, l2⟩ := Jvm.Free.IntBox.length_fwd (Cond.before_iff.mpr h6) et hc harr hvm
  have hsz : cell.slots.size = 128 := by
    have q := len_toInt l1
    rw [l2] at q
    have o128 : (128 : Int32).toInt = 128 := by decide
    omega
  refine ⟨t, Fld.start ((fld_at ev).symm.trans et), cell, ⟨hc, harr, hvm⟩, hsz, fun c h0 hc1 => ?_⟩
  have hin := own_in hsz h0 hc1
  have hlt : c.toNatClampNeg < cell.slots.size := Nat.lt_of_not_le fun q => hin (Or.inr q)
  obtain ⟨v, ev', fv⟩ := elem_fit hfit ⟨hc, harr, hvm⟩ hin
  obtain ⟨w, rfl⟩ : ∃ w, v = .int w := by
    cases v <;> first | exact ⟨_, rfl⟩ | (simp [fits] at fv)
  have hi := idx_at (args := args) (first := s) (o := none) (s := s) h0
  have het : (Jvm.Term.field (Jvm.Term.static "com/example/plumbline/plumbline/BaseEncoding" "BASE64URL" "Lcom/example/plumbline/plumbline/BaseEncoding;") "com/example/plumbline/plumbline/BaseEncoding" "values" "[I").eval args s none [c.toNatClampNeg] s = some (.ref t) := et
  have he := (elem_f (a := .index 0) het hi hat h0).trans ev'
  have I : ∀ (k : Int32) (idx : List Nat), (Term.int k).eval args s none idx s = some (.int k) := fun k idx => Term.int_eval k
  have k17 : ((45 : Int32) ≤ c ∨ w = (-1 : Int32)) := own_dec (own_vor (own_vle (I 45 _) hi) (own_veq he (I (-1) _))) (Cond.all_elim et hat h17 c.toNatClampNeg hlt)
  have k18 : c = (45 : Int32) → w = (62 : Int32) := fun q => by
    have r := (elem_f et (I 45 _) hat (by decide)).symm.trans (OwnW.eqI h18 (I (62) _))
    rw [← q, ev'] at r
    exact Value.int.inj (Option.some.inj r)
  have k19 : c = (46 : Int32) → w = (-1 : Int32) := fun q => by
    have r := (elem_f et (I 46 _) hat (by decide)).symm.trans (OwnW.eqI h19 (I (-1) _))
    rw [← q, ev'] at r
    exact Value.int.inj (Option.some.inj r)
  have k20 : c = (47 : Int32) → w = (-1 : Int32) := fun q => by
    have r := (elem_f et (I 47 _) hat (by decide)).symm.trans (OwnW.eqI h20 (I (-1) _))
    rw [← q, ev'] at r
    exact Value.int.inj (Option.some.inj r)
  have k21 : (c < (48 : Int32) ∨ ((58 : Int32) ≤ c ∨ (w.toInt64 = c.toInt64 + 4))) := own_dec (own_vor (own_vlt hi (I 48 _)) (own_vor (own_vle (I 58 _) hi) (own_veqL ((op1_f he).trans rfl) ((op2_f ((op1_f hi).trans rfl) (show (Jvm.Term.long (4 : Int64)).eval args s none [c.toNatClampNeg] s = some (.long 4) from rfl)).trans rfl)))) (Cond.all_elim et hat h21 c.toNatClampNeg hlt)
  have k22 : (c < (58 : Int32) ∨ ((65 : Int32) ≤ c ∨ w = (-1 : Int32))) := own_dec (own_vor (own_vlt hi (I 58 _)) (own_vor (own_vle (I 65 _) hi) (own_veq he (I (-1) _)))) (Cond.all_elim et hat h22 c.toNatClampNeg hlt)
  have k23 : (c < (65 : Int32) ∨ ((91 : Int32) ≤ c ∨ w = (c - (65 : Int32)))) := own_dec (own_vor (own_vlt hi (I 65 _)) (own_vor (own_vle (I 91 _) hi) (own_veq he (own_vsub hi (I 65 _))))) (Cond.all_elim et hat h23 c.toNatClampNeg hlt)
  have k24 : (c < (91 : Int32) ∨ ((95 : Int32) ≤ c ∨ w = (-1 : Int32))) := own_dec (own_vor (own_vlt hi (I 91 _)) (own_vor (own_vle (I 95 _) hi) (own_veq he (I (-1) _)))) (Cond.all_elim et hat h24 c.toNatClampNeg hlt)
  have k25 : c = (95 : Int32) → w = (63 : Int32) := fun q => by
    have r := (elem_f et (I 95 _) hat (by decide)).symm.trans (OwnW.eqI h25 (I (63) _))
    rw [← q, ev'] at r
    exact Value.int.inj (Option.some.inj r)
  have k26 : c = (96 : Int32) → w = (-1 : Int32) := fun q => by
    have r := (elem_f et (I 96 _) hat (by decide)).symm.trans (OwnW.eqI h26 (I (-1) _))
    rw [← q, ev'] at r
    exact Value.int.inj (Option.some.inj r)
  have k27 : (c < (97 : Int32) ∨ ((123 : Int32) ≤ c ∨ w = (c - (71 : Int32)))) := own_dec (own_vor (own_vlt hi (I 97 _)) (own_vor (own_vle (I 123 _) hi) (own_veq he (own_vsub hi (I 71 _))))) (Cond.all_elim et hat h27 c.toNatClampNeg hlt)
  have k28 : (c < (123 : Int32) ∨ w = (-1 : Int32)) := own_dec (own_vor (own_vlt hi (I 123 _)) (own_veq he (I (-1) _))) (Cond.all_elim et hat h28 c.toNatClampNeg hlt)
  have cn45 : (45 : Int32).toInt = 45 := by decide
  have cc45 : (45 : Int32).toInt = 45 := by decide
  have cc46 : (46 : Int32).toInt = 46 := by decide
  have cc47 : (47 : Int32).toInt = 47 := by decide
  have cn48 : (48 : Int32).toInt = 48 := by decide
  have cn58 : (58 : Int32).toInt = 58 := by decide
  have cn58 : (58 : Int32).toInt = 58 := by decide
  have cn65 : (65 : Int32).toInt = 65 := by decide
  have cn65 : (65 : Int32).toInt = 65 := by decide
  have cn91 : (91 : Int32).toInt = 91 := by decide
  have cn91 : (91 : Int32).toInt = 91 := by decide
  have cn95 : (95 : Int32).toInt = 95 := by decide
  have cc95 : (95 : Int32).toInt = 95 := by decide
  have cc96 : (96 : Int32).toInt = 96 := by decide
  have cn97 : (97 : Int32).toInt = 97 := by decide
  have cn123 : (123 : Int32).toInt = 123 := by decide
  have cn123 : (123 : Int32).toInt = 123 := by decide
  have q64 : w.toInt64 = c.toInt64 + 4 → w.toInt = c.toInt + 4 := own_q64
  have h0' : 0 ≤ c.toInt := by
    rw [Int32.lt_iff_toInt_lt] at h0
    have z : (0 : Int32).toInt = 0 := by decide
    omega
  have hc1' : c.toInt < 128 := by
    rw [Int32.lt_iff_toInt_lt] at hc1
    have z : (128 : Int32).toInt = 128 := by decide
    omega
  have dd : (0 ≤ c.toInt ∧ c.toInt < 45) ∨ (45 ≤ c.toInt ∧ c.toInt < 46) ∨ (46 ≤ c.toInt ∧ c.toInt < 47) ∨ (47 ≤ c.toInt ∧ c.toInt < 48) ∨ (48 ≤ c.toInt ∧ c.toInt < 58) ∨ (58 ≤ c.toInt ∧ c.toInt < 65) ∨ (65 ≤ c.toInt ∧ c.toInt < 91) ∨ (91 ≤ c.toInt ∧ c.toInt < 95) ∨ (95 ≤ c.toInt ∧ c.toInt < 96) ∨ (96 ≤ c.toInt ∧ c.toInt < 97) ∨ (97 ≤ c.toInt ∧ c.toInt < 123) ∨ (123 ≤ c.toInt ∧ c.toInt < 128) := by clear k17 k18 k19 k20 k21 k22 k23 k24 k25 k26 k27 k28; omega
  refine ev'.trans (congrArg (fun z => some (Value.int z)) (Int32.toInt_inj.mp ?_))
  rcases dd with ⟨d1, d2⟩ | ⟨d1, d2⟩ | ⟨d1, d2⟩ | ⟨d1, d2⟩ | ⟨d1, d2⟩ | ⟨d1, d2⟩ | ⟨d1, d2⟩ | ⟨d1, d2⟩ | ⟨d1, d2⟩ | ⟨d1, d2⟩ | ⟨d1, d2⟩ | ⟨d1, d2⟩
  · exact own_fv2_0 d1 d2 ((congrArg Int32.toInt (k17.resolve_left (fun q => absurd (Int32.le_iff_toInt_le.mp q) (by rw [cn45]; omega)))).trans (by decide))
  · exact own_fv2_1 d1 d2 ((congrArg Int32.toInt (k18 (Int32.toInt_inj.mp (by rw [cc45]; omega)))).trans (by decide))
  · exact own_fv2_2 d1 d2 ((congrArg Int32.toInt (k19 (Int32.toInt_inj.mp (by rw [cc46]; omega)))).trans (by decide))
  · exact own_fv2_3 d1 d2 ((congrArg Int32.toInt (k20 (Int32.toInt_inj.mp (by rw [cc47]; omega)))).trans (by decide))
  · exact own_fv2_4 d1 d2 (q64 ((k21.resolve_left (fun q => absurd (Int32.lt_iff_toInt_lt.mp q) (by rw [cn48]; omega))).resolve_left (fun q => absurd (Int32.le_iff_toInt_le.mp q) (by rw [cn58]; omega))))
  · exact own_fv2_5 d1 d2 ((congrArg Int32.toInt ((k22.resolve_left (fun q => absurd (Int32.lt_iff_toInt_lt.mp q) (by rw [cn58]; omega))).resolve_left (fun q => absurd (Int32.le_iff_toInt_le.mp q) (by rw [cn65]; omega)))).trans (by decide))
  · exact own_fv2_6 d1 d2 ((congrArg Int32.toInt ((k23.resolve_left (fun q => absurd (Int32.lt_iff_toInt_lt.mp q) (by rw [cn65]; omega))).resolve_left (fun q => absurd (Int32.le_iff_toInt_le.mp q) (by rw [cn91]; omega)))).trans (own_sb65 h0' hc1'))
  · exact own_fv2_7 d1 d2 ((congrArg Int32.toInt ((k24.resolve_left (fun q => absurd (Int32.lt_iff_toInt_lt.mp q) (by rw [cn91]; omega))).resolve_left (fun q => absurd (Int32.le_iff_toInt_le.mp q) (by rw [cn95]; omega)))).trans (by decide))
  · exact own_fv2_8 d1 d2 ((congrArg Int32.toInt (k25 (Int32.toInt_inj.mp (by rw [cc95]; omega)))).trans (by decide))
  · exact own_fv2_9 d1 d2 ((congrArg Int32.toInt (k26 (Int32.toInt_inj.mp (by rw [cc96]; omega)))).trans (by decide))
  · exact own_fv2_10 d1 d2 ((congrArg Int32.toInt ((k27.resolve_left (fun q => absurd (Int32.lt_iff_toInt_lt.mp q) (by rw [cn97]; omega))).resolve_left (fun q => absurd (Int32.le_iff_toInt_le.mp q) (by rw [cn123]; omega)))).trans (own_sb71 h0' hc1'))
  · exact own_fv2_11 d1 d2 ((congrArg Int32.toInt (k28.resolve_left (fun q => absurd (Int32.lt_iff_toInt_lt.mp q) (by rw [cn123]; omega)))).trans (by decide))

theorem own_ref {args : Array Value} {s : State} {t : Term} (h : (Cond.isRef t).value args s none s [] = some true) : ∃ v : Value, t.eval args s none [] s = some v ∧ v.isRef = true := by
  cases e : t.eval args s none [] s with
  | none => simp [Cond.value, e] at h
  | some v => exact ⟨v, rfl, by cases v <;> simp_all [Cond.value, Value.isRef]⟩
abbrev GoB0 (l : Launch) (Z : State) (n0 : Nat) (Q : Option Value → Heap → Prop) := Go l Z room_1 x code maxLocals ret n0 Q
set_option maxRecDepth 65536 in
set_option maxHeartbeats 400000000 in
theorem tailZ (l : Launch) (Z : State) (a0 : Array Value) (hw : ∀ d ∈ tables_1, d.before a0 Z = true) (p0 : Int32) (p1 : Int32) (p2 : Int64) (p3 : Int32) (k : Int32) (e : Addr) (b : Int32) (n : Int32) (c0 : Int32) (c1 : Int32) (c2 : Int32) (c3 : Int32) (c4 : Int32) (c5 : Int32) (c6 : Int32) (c7 : Int32) (o : Addr) (yv : Value) (cs : Int32) (sv : Value) (h0 hc : Heap) (n0 : Nat) (Z0 : n0 ≤ hc.size) (XB : Ext h0 hc) (E_o : Exa Z hc o "com/example/plumbline/plumbline/BaseEncoding$Reading") (F_al : Fld Z hc o "com/example/plumbline/plumbline/BaseEncoding$Reading" "inAlphabet" "Z" (.int (0 : Int32))) (S_CS : Sta Z h0 "java/lang/String" "COMPACT_STRINGS" "Z" (.int cs)) (S_SF : Sta Z h0 "jdk/internal/util/Preconditions" "SIOOBE_FORMATTER" "Ljava/util/function/BiFunction;" sv) (hk : own_K k b) (hB : own_B k n c0 c1 c2 c3 c4 c5 c6 c7) :
    GoB0 l Z n0 OwnW.One1 hc 18 52 336 #[.val (.int p0), .val (.int p1), .val (.long p2), .second, .val (.int p3), .val (.int k), .val (.ref e), .val (.int b), .val (.int n), .val (.int c0), .val (.int c1), .val (.int c2), .val (.int c3), .val (.int c4), .val (.int c5), .val (.int c6), .val (.int c7), .val yv, .val (.ref o), .unset, .unset, .unset, .unset, .unset] [] := by
  refine OwnW.aload (pc' := 338) at_336 rfl (rfl) rfl ?_
  refine OwnW.callV0 (a0 := a0) (pc' := 341) (W := 0) (k' := 18) (n' := 52) (argsL := []) (rest := []) (St' := [(.int (f16z o))]) at_338 (hw _ (List.mem_of_getElem? (i := 93) rfl)) (hw _ (List.mem_of_getElem? (i := 94) rfl)) (hw _ (List.mem_of_getElem? (i := 96) rfl)) (hw _ (List.mem_of_getElem? (i := 95) rfl)) (hw _ (List.mem_of_getElem? (i := 11) rfl)) (hw _ (List.mem_of_getElem? (i := 97) rfl)) (by decide) E_o (rm16z l Z a0 hw o hc n0 F_al) (by decide) (by decide) rfl rfl (by decide) (by decide) rfl pd_2829Z rfl rfl rfl (Nat.le_of_ble_eq_true rfl) rfl rfl ?_
  rw [show (f16z o) = (0 : Int32) from rfl]
  show GoB0 l Z n0 OwnW.One1 hc 18 52 341 #[.val (.int p0), .val (.int p1), .val (.long p2), .second, .val (.int p3), .val (.int k), .val (.ref e), .val (.int b), .val (.int n), .val (.int c0), .val (.int c1), .val (.int c2), .val (.int c3), .val (.int c4), .val (.int c5), .val (.int c6), .val (.int c7), .val yv, .val (.ref o), .unset, .unset, .unset, .unset, .unset] [(.int (0 : Int32))]
  refine OwnW.istore (pc' := 343) (L' := #[.val (.int p0), .val (.int p1), .val (.long p2), .second, .val (.int p3), .val (.int k), .val (.ref e), .val (.int b), .val (.int n), .val (.int c0), .val (.int c1), .val (.int c2), .val (.int c3), .val (.int c4), .val (.int c5), .val (.int c6), .val (.int c7), .val yv, .val (.ref o), .val (.int (0 : Int32)), .unset, .unset, .unset, .unset]) at_341 rfl rfl ?_
  refine OwnW.iload (pc' := 345) at_343 rfl rfl ?_
  refine OwnW.iload (pc' := 347) at_345 rfl rfl ?_
  refine OwnW.iload (pc' := 349) at_347 rfl rfl ?_
  refine OwnW.iconst (pc' := 350) (v := (0 : Int32)) at_349 rfl rfl ?_
  refine OwnW.callS0 (a0 := a0) (pc' := 353) (W := 0) (k' := 18) (n' := 52) (argsL := [(.int k), (.int c0), (.int n), (.int (0 : Int32))]) (rest := []) (St' := [(.int (f17 k c0 n (0 : Int32)))]) at_350 (hw _ (List.mem_of_getElem? (i := 98) rfl)) (hw _ (List.mem_of_getElem? (i := 99) rfl)) (hw _ (List.mem_of_getElem? (i := 6) rfl)) (hw _ (List.mem_of_getElem? (i := 100) rfl)) (by decide) (rm17 l Z a0 hw k c0 n (0 : Int32) hc n0) (by decide) (by decide) rfl rfl (by decide) (by decide) rfl pd_28ICII29Z rfl rfl rfl (Nat.le_of_ble_eq_true rfl) rfl rfl ?_
  suffices J353_454 : ∀ (wa : Int32), wa = (if (f17 k c0 n (0 : Int32)) = (0 : Int32) then (0 : Int32) else (if (f17 k c1 n (1 : Int32)) = (0 : Int32) then (0 : Int32) else (if (f17 k c2 n (2 : Int32)) = (0 : Int32) then (0 : Int32) else (if (f17 k c3 n (3 : Int32)) = (0 : Int32) then (0 : Int32) else (if (f17 k c4 n (4 : Int32)) = (0 : Int32) then (0 : Int32) else (if (f17 k c5 n (5 : Int32)) = (0 : Int32) then (0 : Int32) else (if (f17 k c6 n (6 : Int32)) = (0 : Int32) then (0 : Int32) else (if (f17 k c7 n (7 : Int32)) = (0 : Int32) then (0 : Int32) else (1 : Int32))))))))) → GoB0 l Z n0 OwnW.One1 hc 18 52 454 #[.val (.int p0), .val (.int p1), .val (.long p2), .second, .val (.int p3), .val (.int k), .val (.ref e), .val (.int b), .val (.int n), .val (.int c0), .val (.int c1), .val (.int c2), .val (.int c3), .val (.int c4), .val (.int c5), .val (.int c6), .val (.int c7), .val yv, .val (.ref o), .val (.int (0 : Int32)), .unset, .unset, .unset, .unset] [(.int wa)] by
    by_cases hc353 : (f17 k c0 n (0 : Int32)) = (0 : Int32)
    ·
      refine OwnW.ifcY (pc' := 453) at_353 ((if0 _ _).trans (teq hc353).1) (by decide) (by decide) ?_
      refine OwnW.iconst (pc' := 454) (v := (0 : Int32)) at_453 rfl rfl ?_
      exact J353_454 _ (by first | simp only [if_pos hc353] | rfl)
    ·
      refine OwnW.ifcN (pc' := 356) at_353 ((if0 _ _).trans (feq hc353).1) rfl ?_
      refine OwnW.iload (pc' := 358) at_356 rfl rfl ?_
      refine OwnW.iload (pc' := 360) at_358 rfl rfl ?_
      refine OwnW.iload (pc' := 362) at_360 rfl rfl ?_
      refine OwnW.iconst (pc' := 363) (v := (1 : Int32)) at_362 rfl rfl ?_
      refine OwnW.callS0 (a0 := a0) (pc' := 366) (W := 0) (k' := 18) (n' := 52) (argsL := [(.int k), (.int c1), (.int n), (.int (1 : Int32))]) (rest := []) (St' := [(.int (f17 k c1 n (1 : Int32)))]) at_363 (hw _ (List.mem_of_getElem? (i := 98) rfl)) (hw _ (List.mem_of_getElem? (i := 99) rfl)) (hw _ (List.mem_of_getElem? (i := 6) rfl)) (hw _ (List.mem_of_getElem? (i := 100) rfl)) (by decide) (rm17 l Z a0 hw k c1 n (1 : Int32) hc n0) (by decide) (by decide) rfl rfl (by decide) (by decide) rfl pd_28ICII29Z rfl rfl rfl (Nat.le_of_ble_eq_true rfl) rfl rfl ?_
      by_cases hc366 : (f17 k c1 n (1 : Int32)) = (0 : Int32)
      ·
        refine OwnW.ifcY (pc' := 453) at_366 ((if0 _ _).trans (teq hc366).1) (by decide) (by decide) ?_
        refine OwnW.iconst (pc' := 454) (v := (0 : Int32)) at_453 rfl rfl ?_
        exact J353_454 _ (by first | simp only [if_neg hc353, if_pos hc366] | rfl)
      ·
        refine OwnW.ifcN (pc' := 369) at_366 ((if0 _ _).trans (feq hc366).1) rfl ?_
        refine OwnW.iload (pc' := 371) at_369 rfl rfl ?_
        refine OwnW.iload (pc' := 373) at_371 rfl rfl ?_
        refine OwnW.iload (pc' := 375) at_373 rfl rfl ?_
        refine OwnW.iconst (pc' := 376) (v := (2 : Int32)) at_375 rfl rfl ?_
        refine OwnW.callS0 (a0 := a0) (pc' := 379) (W := 0) (k' := 18) (n' := 52) (argsL := [(.int k), (.int c2), (.int n), (.int (2 : Int32))]) (rest := []) (St' := [(.int (f17 k c2 n (2 : Int32)))]) at_376 (hw _ (List.mem_of_getElem? (i := 98) rfl)) (hw _ (List.mem_of_getElem? (i := 99) rfl)) (hw _ (List.mem_of_getElem? (i := 6) rfl)) (hw _ (List.mem_of_getElem? (i := 100) rfl)) (by decide) (rm17 l Z a0 hw k c2 n (2 : Int32) hc n0) (by decide) (by decide) rfl rfl (by decide) (by decide) rfl pd_28ICII29Z rfl rfl rfl (Nat.le_of_ble_eq_true rfl) rfl rfl ?_
        by_cases hc379 : (f17 k c2 n (2 : Int32)) = (0 : Int32)
        ·
          refine OwnW.ifcY (pc' := 453) at_379 ((if0 _ _).trans (teq hc379).1) (by decide) (by decide) ?_
          refine OwnW.iconst (pc' := 454) (v := (0 : Int32)) at_453 rfl rfl ?_
          exact J353_454 _ (by first | simp only [if_neg hc353, if_neg hc366, if_pos hc379] | rfl)
        ·
          refine OwnW.ifcN (pc' := 382) at_379 ((if0 _ _).trans (feq hc379).1) rfl ?_
          refine OwnW.iload (pc' := 384) at_382 rfl rfl ?_
          refine OwnW.iload (pc' := 386) at_384 rfl rfl ?_
          refine OwnW.iload (pc' := 388) at_386 rfl rfl ?_
          refine OwnW.iconst (pc' := 389) (v := (3 : Int32)) at_388 rfl rfl ?_
          refine OwnW.callS0 (a0 := a0) (pc' := 392) (W := 0) (k' := 18) (n' := 52) (argsL := [(.int k), (.int c3), (.int n), (.int (3 : Int32))]) (rest := []) (St' := [(.int (f17 k c3 n (3 : Int32)))]) at_389 (hw _ (List.mem_of_getElem? (i := 98) rfl)) (hw _ (List.mem_of_getElem? (i := 99) rfl)) (hw _ (List.mem_of_getElem? (i := 6) rfl)) (hw _ (List.mem_of_getElem? (i := 100) rfl)) (by decide) (rm17 l Z a0 hw k c3 n (3 : Int32) hc n0) (by decide) (by decide) rfl rfl (by decide) (by decide) rfl pd_28ICII29Z rfl rfl rfl (Nat.le_of_ble_eq_true rfl) rfl rfl ?_
          by_cases hc392 : (f17 k c3 n (3 : Int32)) = (0 : Int32)
          ·
            refine OwnW.ifcY (pc' := 453) at_392 ((if0 _ _).trans (teq hc392).1) (by decide) (by decide) ?_
            refine OwnW.iconst (pc' := 454) (v := (0 : Int32)) at_453 rfl rfl ?_
            exact J353_454 _ (by first | simp only [if_neg hc353, if_neg hc366, if_neg hc379, if_pos hc392] | rfl)
          ·
            refine OwnW.ifcN (pc' := 395) at_392 ((if0 _ _).trans (feq hc392).1) rfl ?_
            refine OwnW.iload (pc' := 397) at_395 rfl rfl ?_
            refine OwnW.iload (pc' := 399) at_397 rfl rfl ?_
            refine OwnW.iload (pc' := 401) at_399 rfl rfl ?_
            refine OwnW.iconst (pc' := 402) (v := (4 : Int32)) at_401 rfl rfl ?_
            refine OwnW.callS0 (a0 := a0) (pc' := 405) (W := 0) (k' := 18) (n' := 52) (argsL := [(.int k), (.int c4), (.int n), (.int (4 : Int32))]) (rest := []) (St' := [(.int (f17 k c4 n (4 : Int32)))]) at_402 (hw _ (List.mem_of_getElem? (i := 98) rfl)) (hw _ (List.mem_of_getElem? (i := 99) rfl)) (hw _ (List.mem_of_getElem? (i := 6) rfl)) (hw _ (List.mem_of_getElem? (i := 100) rfl)) (by decide) (rm17 l Z a0 hw k c4 n (4 : Int32) hc n0) (by decide) (by decide) rfl rfl (by decide) (by decide) rfl pd_28ICII29Z rfl rfl rfl (Nat.le_of_ble_eq_true rfl) rfl rfl ?_
            by_cases hc405 : (f17 k c4 n (4 : Int32)) = (0 : Int32)
            ·
              refine OwnW.ifcY (pc' := 453) at_405 ((if0 _ _).trans (teq hc405).1) (by decide) (by decide) ?_
              refine OwnW.iconst (pc' := 454) (v := (0 : Int32)) at_453 rfl rfl ?_
              exact J353_454 _ (by first | simp only [if_neg hc353, if_neg hc366, if_neg hc379, if_neg hc392, if_pos hc405] | rfl)
            ·
              refine OwnW.ifcN (pc' := 408) at_405 ((if0 _ _).trans (feq hc405).1) rfl ?_
              refine OwnW.iload (pc' := 410) at_408 rfl rfl ?_
              refine OwnW.iload (pc' := 412) at_410 rfl rfl ?_
              refine OwnW.iload (pc' := 414) at_412 rfl rfl ?_
              refine OwnW.iconst (pc' := 415) (v := (5 : Int32)) at_414 rfl rfl ?_
              refine OwnW.callS0 (a0 := a0) (pc' := 418) (W := 0) (k' := 18) (n' := 52) (argsL := [(.int k), (.int c5), (.int n), (.int (5 : Int32))]) (rest := []) (St' := [(.int (f17 k c5 n (5 : Int32)))]) at_415 (hw _ (List.mem_of_getElem? (i := 98) rfl)) (hw _ (List.mem_of_getElem? (i := 99) rfl)) (hw _ (List.mem_of_getElem? (i := 6) rfl)) (hw _ (List.mem_of_getElem? (i := 100) rfl)) (by decide) (rm17 l Z a0 hw k c5 n (5 : Int32) hc n0) (by decide) (by decide) rfl rfl (by decide) (by decide) rfl pd_28ICII29Z rfl rfl rfl (Nat.le_of_ble_eq_true rfl) rfl rfl ?_
              by_cases hc418 : (f17 k c5 n (5 : Int32)) = (0 : Int32)
              ·
                refine OwnW.ifcY (pc' := 453) at_418 ((if0 _ _).trans (teq hc418).1) (by decide) (by decide) ?_
                refine OwnW.iconst (pc' := 454) (v := (0 : Int32)) at_453 rfl rfl ?_
                exact J353_454 _ (by first | simp only [if_neg hc353, if_neg hc366, if_neg hc379, if_neg hc392, if_neg hc405, if_pos hc418] | rfl)
              ·
                refine OwnW.ifcN (pc' := 421) at_418 ((if0 _ _).trans (feq hc418).1) rfl ?_
                refine OwnW.iload (pc' := 423) at_421 rfl rfl ?_
                refine OwnW.iload (pc' := 425) at_423 rfl rfl ?_
                refine OwnW.iload (pc' := 427) at_425 rfl rfl ?_
                refine OwnW.bipush (pc' := 429) (v := (6 : Int32)) at_427 rfl rfl ?_
                refine OwnW.callS0 (a0 := a0) (pc' := 432) (W := 0) (k' := 18) (n' := 52) (argsL := [(.int k), (.int c6), (.int n), (.int (6 : Int32))]) (rest := []) (St' := [(.int (f17 k c6 n (6 : Int32)))]) at_429 (hw _ (List.mem_of_getElem? (i := 98) rfl)) (hw _ (List.mem_of_getElem? (i := 99) rfl)) (hw _ (List.mem_of_getElem? (i := 6) rfl)) (hw _ (List.mem_of_getElem? (i := 100) rfl)) (by decide) (rm17 l Z a0 hw k c6 n (6 : Int32) hc n0) (by decide) (by decide) rfl rfl (by decide) (by decide) rfl pd_28ICII29Z rfl rfl rfl (Nat.le_of_ble_eq_true rfl) rfl rfl ?_
                by_cases hc432 : (f17 k c6 n (6 : Int32)) = (0 : Int32)
                ·
                  refine OwnW.ifcY (pc' := 453) at_432 ((if0 _ _).trans (teq hc432).1) (by decide) (by decide) ?_
                  refine OwnW.iconst (pc' := 454) (v := (0 : Int32)) at_453 rfl rfl ?_
                  exact J353_454 _ (by first | simp only [if_neg hc353, if_neg hc366, if_neg hc379, if_neg hc392, if_neg hc405, if_neg hc418, if_pos hc432] | rfl)
                ·
                  refine OwnW.ifcN (pc' := 435) at_432 ((if0 _ _).trans (feq hc432).1) rfl ?_
                  refine OwnW.iload (pc' := 437) at_435 rfl rfl ?_
                  refine OwnW.iload (pc' := 439) at_437 rfl rfl ?_
                  refine OwnW.iload (pc' := 441) at_439 rfl rfl ?_
                  refine OwnW.bipush (pc' := 443) (v := (7 : Int32)) at_441 rfl rfl ?_
                  refine OwnW.callS0 (a0 := a0) (pc' := 446) (W := 0) (k' := 18) (n' := 52) (argsL := [(.int k), (.int c7), (.int n), (.int (7 : Int32))]) (rest := []) (St' := [(.int (f17 k c7 n (7 : Int32)))]) at_443 (hw _ (List.mem_of_getElem? (i := 98) rfl)) (hw _ (List.mem_of_getElem? (i := 99) rfl)) (hw _ (List.mem_of_getElem? (i := 6) rfl)) (hw _ (List.mem_of_getElem? (i := 100) rfl)) (by decide) (rm17 l Z a0 hw k c7 n (7 : Int32) hc n0) (by decide) (by decide) rfl rfl (by decide) (by decide) rfl pd_28ICII29Z rfl rfl rfl (Nat.le_of_ble_eq_true rfl) rfl rfl ?_
                  by_cases hc446 : (f17 k c7 n (7 : Int32)) = (0 : Int32)
                  ·
                    refine OwnW.ifcY (pc' := 453) at_446 ((if0 _ _).trans (teq hc446).1) (by decide) (by decide) ?_
                    refine OwnW.iconst (pc' := 454) (v := (0 : Int32)) at_453 rfl rfl ?_
                    exact J353_454 _ (by first | simp only [if_neg hc353, if_neg hc366, if_neg hc379, if_neg hc392, if_neg hc405, if_neg hc418, if_neg hc432, if_pos hc446] | rfl)
                  ·
                    refine OwnW.ifcN (pc' := 449) at_446 ((if0 _ _).trans (feq hc446).1) rfl ?_
                    refine OwnW.iconst (pc' := 450) (v := (1 : Int32)) at_449 rfl rfl ?_
                    refine OwnW.goto (pc' := 454) at_450 (by decide) (by decide) ?_
                    exact J353_454 _ (by first | simp only [if_neg hc353, if_neg hc366, if_neg hc379, if_neg hc392, if_neg hc405, if_neg hc418, if_neg hc432, if_neg hc446] | rfl)
  intro wa hwa
  refine OwnW.istore (pc' := 456) (L' := #[.val (.int p0), .val (.int p1), .val (.long p2), .second, .val (.int p3), .val (.int k), .val (.ref e), .val (.int b), .val (.int n), .val (.int c0), .val (.int c1), .val (.int c2), .val (.int c3), .val (.int c4), .val (.int c5), .val (.int c6), .val (.int c7), .val yv, .val (.ref o), .val (.int (0 : Int32)), .val (.int wa), .unset, .unset, .unset]) at_454 rfl rfl ?_
  refine OwnW.iload (pc' := 458) at_456 rfl rfl ?_
  refine OwnW.iconst (pc' := 459) (v := (1 : Int32)) at_458 rfl rfl ?_
  suffices J459_537 : ∀ (cl : Int32), cl = (if n = (1 : Int32) then c0 else (if n = (2 : Int32) then c1 else (if n = (3 : Int32) then c2 else (if n = (4 : Int32) then c3 else (if n = (5 : Int32) then c4 else (if n = (6 : Int32) then c5 else (if n = (7 : Int32) then c6 else c7))))))) → GoB0 l Z n0 OwnW.One1 hc 18 52 537 #[.val (.int p0), .val (.int p1), .val (.long p2), .second, .val (.int p3), .val (.int k), .val (.ref e), .val (.int b), .val (.int n), .val (.int c0), .val (.int c1), .val (.int c2), .val (.int c3), .val (.int c4), .val (.int c5), .val (.int c6), .val (.int c7), .val yv, .val (.ref o), .val (.int (0 : Int32)), .val (.int wa), .unset, .unset, .unset] [(.int cl)] by
    by_cases hc459 : n = (1 : Int32)
    ·
      refine OwnW.icmpN (pc' := 462) at_459 (teq hc459).2 rfl ?_
      refine OwnW.iload (pc' := 464) at_462 rfl rfl ?_
      refine OwnW.goto (pc' := 537) at_464 (by decide) (by decide) ?_
      exact J459_537 _ (by first | simp only [if_pos hc459] | rfl)
    ·
      refine OwnW.icmpY (pc' := 467) at_459 (feq hc459).2 (by decide) (by decide) ?_
      refine OwnW.iload (pc' := 469) at_467 rfl rfl ?_
      refine OwnW.iconst (pc' := 470) (v := (2 : Int32)) at_469 rfl rfl ?_
      by_cases hc470 : n = (2 : Int32)
      ·
        refine OwnW.icmpN (pc' := 473) at_470 (teq hc470).2 rfl ?_
        refine OwnW.iload (pc' := 475) at_473 rfl rfl ?_
        refine OwnW.goto (pc' := 537) at_475 (by decide) (by decide) ?_
        exact J459_537 _ (by first | simp only [if_neg hc459, if_pos hc470] | rfl)
      ·
        refine OwnW.icmpY (pc' := 478) at_470 (feq hc470).2 (by decide) (by decide) ?_
        refine OwnW.iload (pc' := 480) at_478 rfl rfl ?_
        refine OwnW.iconst (pc' := 481) (v := (3 : Int32)) at_480 rfl rfl ?_
        by_cases hc481 : n = (3 : Int32)
        ·
          refine OwnW.icmpN (pc' := 484) at_481 (teq hc481).2 rfl ?_
          refine OwnW.iload (pc' := 486) at_484 rfl rfl ?_
          refine OwnW.goto (pc' := 537) at_486 (by decide) (by decide) ?_
          exact J459_537 _ (by first | simp only [if_neg hc459, if_neg hc470, if_pos hc481] | rfl)
        ·
          refine OwnW.icmpY (pc' := 489) at_481 (feq hc481).2 (by decide) (by decide) ?_
          refine OwnW.iload (pc' := 491) at_489 rfl rfl ?_
          refine OwnW.iconst (pc' := 492) (v := (4 : Int32)) at_491 rfl rfl ?_
          by_cases hc492 : n = (4 : Int32)
          ·
            refine OwnW.icmpN (pc' := 495) at_492 (teq hc492).2 rfl ?_
            refine OwnW.iload (pc' := 497) at_495 rfl rfl ?_
            refine OwnW.goto (pc' := 537) at_497 (by decide) (by decide) ?_
            exact J459_537 _ (by first | simp only [if_neg hc459, if_neg hc470, if_neg hc481, if_pos hc492] | rfl)
          ·
            refine OwnW.icmpY (pc' := 500) at_492 (feq hc492).2 (by decide) (by decide) ?_
            refine OwnW.iload (pc' := 502) at_500 rfl rfl ?_
            refine OwnW.iconst (pc' := 503) (v := (5 : Int32)) at_502 rfl rfl ?_
            by_cases hc503 : n = (5 : Int32)
            ·
              refine OwnW.icmpN (pc' := 506) at_503 (teq hc503).2 rfl ?_
              refine OwnW.iload (pc' := 508) at_506 rfl rfl ?_
              refine OwnW.goto (pc' := 537) at_508 (by decide) (by decide) ?_
              exact J459_537 _ (by first | simp only [if_neg hc459, if_neg hc470, if_neg hc481, if_neg hc492, if_pos hc503] | rfl)
            ·
              refine OwnW.icmpY (pc' := 511) at_503 (feq hc503).2 (by decide) (by decide) ?_
              refine OwnW.iload (pc' := 513) at_511 rfl rfl ?_
              refine OwnW.bipush (pc' := 515) (v := (6 : Int32)) at_513 rfl rfl ?_
              by_cases hc515 : n = (6 : Int32)
              ·
                refine OwnW.icmpN (pc' := 518) at_515 (teq hc515).2 rfl ?_
                refine OwnW.iload (pc' := 520) at_518 rfl rfl ?_
                refine OwnW.goto (pc' := 537) at_520 (by decide) (by decide) ?_
                exact J459_537 _ (by first | simp only [if_neg hc459, if_neg hc470, if_neg hc481, if_neg hc492, if_neg hc503, if_pos hc515] | rfl)
              ·
                refine OwnW.icmpY (pc' := 523) at_515 (feq hc515).2 (by decide) (by decide) ?_
                refine OwnW.iload (pc' := 525) at_523 rfl rfl ?_
                refine OwnW.bipush (pc' := 527) (v := (7 : Int32)) at_525 rfl rfl ?_
                by_cases hc527 : n = (7 : Int32)
                ·
                  refine OwnW.icmpN (pc' := 530) at_527 (teq hc527).2 rfl ?_
                  refine OwnW.iload (pc' := 532) at_530 rfl rfl ?_
                  refine OwnW.goto (pc' := 537) at_532 (by decide) (by decide) ?_
                  exact J459_537 _ (by first | simp only [if_neg hc459, if_neg hc470, if_neg hc481, if_neg hc492, if_neg hc503, if_neg hc515, if_pos hc527] | rfl)
                ·
                  refine OwnW.icmpY (pc' := 535) at_527 (feq hc527).2 (by decide) (by decide) ?_
                  refine OwnW.iload (pc' := 537) at_535 rfl rfl ?_
                  exact J459_537 _ (by first | simp only [if_neg hc459, if_neg hc470, if_neg hc481, if_neg hc492, if_neg hc503, if_neg hc515, if_neg hc527] | rfl)
  intro cl hcl
  refine OwnW.istore (pc' := 539) (L' := #[.val (.int p0), .val (.int p1), .val (.long p2), .second, .val (.int p3), .val (.int k), .val (.ref e), .val (.int b), .val (.int n), .val (.int c0), .val (.int c1), .val (.int c2), .val (.int c3), .val (.int c4), .val (.int c5), .val (.int c6), .val (.int c7), .val yv, .val (.ref o), .val (.int (0 : Int32)), .val (.int wa), .val (.int cl), .unset, .unset]) at_537 rfl rfl ?_
  refine OwnW.iload (pc' := 541) at_539 rfl rfl ?_
  refine OwnW.iload (pc' := 543) at_541 rfl rfl ?_
  refine OwnW.imul (pc' := 544) at_543 rfl ?_
  refine OwnW.bipush (pc' := 546) (v := (8 : Int32)) at_544 rfl rfl ?_
  refine OwnW.irem (pc' := 547) at_546 (by decide) rfl ?_
  refine OwnW.istore (pc' := 549) (L' := #[.val (.int p0), .val (.int p1), .val (.long p2), .second, .val (.int p3), .val (.int k), .val (.ref e), .val (.int b), .val (.int n), .val (.int c0), .val (.int c1), .val (.int c2), .val (.int c3), .val (.int c4), .val (.int c5), .val (.int c6), .val (.int c7), .val yv, .val (.ref o), .val (.int (0 : Int32)), .val (.int wa), .val (.int cl), .val (.int ((n * b) % (8 : Int32))), .unset]) at_547 rfl rfl ?_
  refine OwnW.iload (pc' := 551) at_549 rfl rfl ?_
  suffices J551_588 : ∀ (wn : Int32), wn = (if wa = (0 : Int32) then (0 : Int32) else (if ((n * b) % (8 : Int32)) < b then (if n = (0 : Int32) then (1 : Int32) else (if ((f18 k cl) &&& (((1 : Int32) <<< (((n * b) % (8 : Int32)) &&& 31)) - (1 : Int32))) = (0 : Int32) then (1 : Int32) else (0 : Int32))) else (0 : Int32))) → GoB0 l Z n0 OwnW.One1 hc 18 52 588 #[.val (.int p0), .val (.int p1), .val (.long p2), .second, .val (.int p3), .val (.int k), .val (.ref e), .val (.int b), .val (.int n), .val (.int c0), .val (.int c1), .val (.int c2), .val (.int c3), .val (.int c4), .val (.int c5), .val (.int c6), .val (.int c7), .val yv, .val (.ref o), .val (.int (0 : Int32)), .val (.int wa), .val (.int cl), .val (.int ((n * b) % (8 : Int32))), .unset] [(.int wn)] by
    by_cases hc551 : wa = (0 : Int32)
    ·
      refine OwnW.ifcY (pc' := 587) at_551 ((if0 _ _).trans (teq hc551).1) (by decide) (by decide) ?_
      refine OwnW.iconst (pc' := 588) (v := (0 : Int32)) at_587 rfl rfl ?_
      exact J551_588 _ (by first | simp only [if_pos hc551] | rfl)
    ·
      refine OwnW.ifcN (pc' := 554) at_551 ((if0 _ _).trans (feq hc551).1) rfl ?_
      refine OwnW.iload (pc' := 556) at_554 rfl rfl ?_
      refine OwnW.iload (pc' := 558) at_556 rfl rfl ?_
      by_cases hc558 : ((n * b) % (8 : Int32)) < b
      ·
        refine OwnW.icmpN (pc' := 561) at_558 (tlt hc558).2.1 rfl ?_
        refine OwnW.iload (pc' := 563) at_561 rfl rfl ?_
        by_cases hc563 : n = (0 : Int32)
        ·
          refine OwnW.ifcY (pc' := 583) at_563 ((if0 _ _).trans (teq hc563).1) (by decide) (by decide) ?_
          refine OwnW.iconst (pc' := 584) (v := (1 : Int32)) at_583 rfl rfl ?_
          refine OwnW.goto (pc' := 588) at_584 (by decide) (by decide) ?_
          exact J551_588 _ (by first | simp only [if_neg hc551, if_pos hc558, if_pos hc563] | rfl)
        ·
          refine OwnW.ifcN (pc' := 566) at_563 ((if0 _ _).trans (feq hc563).1) rfl ?_
          refine OwnW.iload (pc' := 568) at_566 rfl rfl ?_
          refine OwnW.iload (pc' := 570) at_568 rfl rfl ?_
          refine OwnW.callS0 (a0 := a0) (pc' := 573) (W := 0) (k' := 18) (n' := 52) (argsL := [(.int k), (.int cl)]) (rest := []) (St' := [(.int (f18 k cl))]) at_570 (hw _ (List.mem_of_getElem? (i := 101) rfl)) (hw _ (List.mem_of_getElem? (i := 102) rfl)) (hw _ (List.mem_of_getElem? (i := 6) rfl)) (hw _ (List.mem_of_getElem? (i := 103) rfl)) (by decide) (rm18 l Z a0 hw k cl hc n0) (by decide) (by decide) rfl rfl (by decide) (by decide) rfl pd_28IC29I rfl rfl rfl (Nat.le_of_ble_eq_true rfl) rfl rfl ?_
          refine OwnW.iconst (pc' := 574) (v := (1 : Int32)) at_573 rfl rfl ?_
          refine OwnW.iload (pc' := 576) at_574 rfl rfl ?_
          refine OwnW.ishl (pc' := 577) at_576 rfl ?_
          refine OwnW.iconst (pc' := 578) (v := (1 : Int32)) at_577 rfl rfl ?_
          refine OwnW.isub (pc' := 579) at_578 rfl ?_
          refine OwnW.iand (pc' := 580) at_579 rfl ?_
          by_cases hc580 : ((f18 k cl) &&& (((1 : Int32) <<< (((n * b) % (8 : Int32)) &&& 31)) - (1 : Int32))) = (0 : Int32)
          ·
            refine OwnW.ifcN (pc' := 583) at_580 ((if0 _ _).trans (teq hc580).2) rfl ?_
            refine OwnW.iconst (pc' := 584) (v := (1 : Int32)) at_583 rfl rfl ?_
            refine OwnW.goto (pc' := 588) at_584 (by decide) (by decide) ?_
            exact J551_588 _ (by first | simp only [if_neg hc551, if_pos hc558, if_neg hc563, if_pos hc580] | rfl)
          ·
            refine OwnW.ifcY (pc' := 587) at_580 ((if0 _ _).trans (feq hc580).2) (by decide) (by decide) ?_
            refine OwnW.iconst (pc' := 588) (v := (0 : Int32)) at_587 rfl rfl ?_
            exact J551_588 _ (by first | simp only [if_neg hc551, if_pos hc558, if_neg hc563, if_neg hc580] | rfl)
      ·
        refine OwnW.icmpY (pc' := 587) at_558 (flt hc558).2.1 (by decide) (by decide) ?_
        refine OwnW.iconst (pc' := 588) (v := (0 : Int32)) at_587 rfl rfl ?_
        exact J551_588 _ (by first | simp only [if_neg hc551, if_neg hc558] | rfl)
  intro wn hwn
  refine OwnW.istore (pc' := 590) (L' := #[.val (.int p0), .val (.int p1), .val (.long p2), .second, .val (.int p3), .val (.int k), .val (.ref e), .val (.int b), .val (.int n), .val (.int c0), .val (.int c1), .val (.int c2), .val (.int c3), .val (.int c4), .val (.int c5), .val (.int c6), .val (.int c7), .val yv, .val (.ref o), .val (.int (0 : Int32)), .val (.int wa), .val (.int cl), .val (.int ((n * b) % (8 : Int32))), .val (.int wn)]) at_588 rfl rfl ?_
  refine OwnW.iload (pc' := 592) at_590 rfl rfl ?_
  refine OwnW.iload (pc' := 594) at_592 rfl rfl ?_
  refine OwnW.icmpN (pc' := 597) at_594 (teq (own_lawZ hB hwa hwn)).2 rfl ?_
  refine OwnW.iconst (pc' := 598) (v := (1 : Int32)) at_597 rfl rfl ?_
  refine OwnW.goto (pc' := 602) at_598 (by decide) (by decide) ?_
  exact OwnW.retN (t := .boolean) at_602 rfl (by simp) rfl (by decide) (by decide) (rfl)
set_option maxRecDepth 65536 in
set_option maxHeartbeats 400000000 in
theorem tailG (l : Launch) (Z : State) (a0 : Array Value) (hw : ∀ d ∈ tables_1, d.before a0 Z = true) (p0 : Int32) (p1 : Int32) (p2 : Int64) (p3 : Int32) (k : Int32) (e : Addr) (b : Int32) (n : Int32) (c0 : Int32) (c1 : Int32) (c2 : Int32) (c3 : Int32) (c4 : Int32) (c5 : Int32) (c6 : Int32) (c7 : Int32) (o : Addr) (yv : Value) (P : Int32) (hd : Int32) (cs : Int32) (sv : Value) (h0 hc : Heap) (n0 : Nat) (Z0 : n0 ≤ hc.size) (XB : Ext h0 hc) (E_o : Exa Z hc o "com/example/plumbline/plumbline/BaseEncoding$Reading") (F_al : Fld Z hc o "com/example/plumbline/plumbline/BaseEncoding$Reading" "inAlphabet" "Z" (.int (1 : Int32))) (F_enc : Fld Z hc o "com/example/plumbline/plumbline/BaseEncoding$Reading" "encoding" "Lcom/example/plumbline/plumbline/BaseEncoding;" (.ref e)) (F_P : Fld Z hc o "com/example/plumbline/plumbline/BaseEncoding$Reading" "pending" "I" (.int P)) (F_hd : Fld Z hc o "com/example/plumbline/plumbline/BaseEncoding$Reading" "held" "I" (.int hd)) (F_b : Fld Z hc e "com/example/plumbline/plumbline/BaseEncoding" "bits" "I" (.int b)) (S_CS : Sta Z h0 "java/lang/String" "COMPACT_STRINGS" "Z" (.int cs)) (S_SF : Sta Z h0 "jdk/internal/util/Preconditions" "SIOOBE_FORMATTER" "Ljava/util/function/BiFunction;" sv) (hk : own_K k b) (hI : own_I n.toInt k b n hd P c0 c1 c2 c3 c4 c5 c6 c7) :
    GoB0 l Z n0 OwnW.One1 hc 18 52 336 #[.val (.int p0), .val (.int p1), .val (.long p2), .second, .val (.int p3), .val (.int k), .val (.ref e), .val (.int b), .val (.int n), .val (.int c0), .val (.int c1), .val (.int c2), .val (.int c3), .val (.int c4), .val (.int c5), .val (.int c6), .val (.int c7), .val yv, .val (.ref o), .unset, .unset, .unset, .unset, .unset] [] := by
  refine OwnW.aload (pc' := 338) at_336 rfl (rfl) rfl ?_
  refine OwnW.callV0 (a0 := a0) (pc' := 341) (W := 0) (k' := 18) (n' := 52) (argsL := []) (rest := []) (St' := [(.int (f16g o e b P hd))]) at_338 (hw _ (List.mem_of_getElem? (i := 93) rfl)) (hw _ (List.mem_of_getElem? (i := 94) rfl)) (hw _ (List.mem_of_getElem? (i := 96) rfl)) (hw _ (List.mem_of_getElem? (i := 95) rfl)) (hw _ (List.mem_of_getElem? (i := 11) rfl)) (hw _ (List.mem_of_getElem? (i := 97) rfl)) (by decide) E_o (rm16g l Z a0 hw o e b P hd hc n0 F_al F_enc F_P F_hd F_b) (by decide) (by decide) rfl rfl (by decide) (by decide) rfl pd_2829Z rfl rfl rfl (Nat.le_of_ble_eq_true rfl) rfl rfl ?_
  refine OwnW.istore (pc' := 343) (L' := #[.val (.int p0), .val (.int p1), .val (.long p2), .second, .val (.int p3), .val (.int k), .val (.ref e), .val (.int b), .val (.int n), .val (.int c0), .val (.int c1), .val (.int c2), .val (.int c3), .val (.int c4), .val (.int c5), .val (.int c6), .val (.int c7), .val yv, .val (.ref o), .val (.int (f16g o e b P hd)), .unset, .unset, .unset, .unset]) at_341 rfl rfl ?_
  refine OwnW.iload (pc' := 345) at_343 rfl rfl ?_
  refine OwnW.iload (pc' := 347) at_345 rfl rfl ?_
  refine OwnW.iload (pc' := 349) at_347 rfl rfl ?_
  refine OwnW.iconst (pc' := 350) (v := (0 : Int32)) at_349 rfl rfl ?_
  refine OwnW.callS0 (a0 := a0) (pc' := 353) (W := 0) (k' := 18) (n' := 52) (argsL := [(.int k), (.int c0), (.int n), (.int (0 : Int32))]) (rest := []) (St' := [(.int (f17 k c0 n (0 : Int32)))]) at_350 (hw _ (List.mem_of_getElem? (i := 98) rfl)) (hw _ (List.mem_of_getElem? (i := 99) rfl)) (hw _ (List.mem_of_getElem? (i := 6) rfl)) (hw _ (List.mem_of_getElem? (i := 100) rfl)) (by decide) (rm17 l Z a0 hw k c0 n (0 : Int32) hc n0) (by decide) (by decide) rfl rfl (by decide) (by decide) rfl pd_28ICII29Z rfl rfl rfl (Nat.le_of_ble_eq_true rfl) rfl rfl ?_
  suffices J353_454 : ∀ (wa : Int32), wa = (if (f17 k c0 n (0 : Int32)) = (0 : Int32) then (0 : Int32) else (if (f17 k c1 n (1 : Int32)) = (0 : Int32) then (0 : Int32) else (if (f17 k c2 n (2 : Int32)) = (0 : Int32) then (0 : Int32) else (if (f17 k c3 n (3 : Int32)) = (0 : Int32) then (0 : Int32) else (if (f17 k c4 n (4 : Int32)) = (0 : Int32) then (0 : Int32) else (if (f17 k c5 n (5 : Int32)) = (0 : Int32) then (0 : Int32) else (if (f17 k c6 n (6 : Int32)) = (0 : Int32) then (0 : Int32) else (if (f17 k c7 n (7 : Int32)) = (0 : Int32) then (0 : Int32) else (1 : Int32))))))))) → GoB0 l Z n0 OwnW.One1 hc 18 52 454 #[.val (.int p0), .val (.int p1), .val (.long p2), .second, .val (.int p3), .val (.int k), .val (.ref e), .val (.int b), .val (.int n), .val (.int c0), .val (.int c1), .val (.int c2), .val (.int c3), .val (.int c4), .val (.int c5), .val (.int c6), .val (.int c7), .val yv, .val (.ref o), .val (.int (f16g o e b P hd)), .unset, .unset, .unset, .unset] [(.int wa)] by
    by_cases hc353 : (f17 k c0 n (0 : Int32)) = (0 : Int32)
    ·
      refine OwnW.ifcY (pc' := 453) at_353 ((if0 _ _).trans (teq hc353).1) (by decide) (by decide) ?_
      refine OwnW.iconst (pc' := 454) (v := (0 : Int32)) at_453 rfl rfl ?_
      exact J353_454 _ (by first | simp only [if_pos hc353] | rfl)
    ·
      refine OwnW.ifcN (pc' := 356) at_353 ((if0 _ _).trans (feq hc353).1) rfl ?_
      refine OwnW.iload (pc' := 358) at_356 rfl rfl ?_
      refine OwnW.iload (pc' := 360) at_358 rfl rfl ?_
      refine OwnW.iload (pc' := 362) at_360 rfl rfl ?_
      refine OwnW.iconst (pc' := 363) (v := (1 : Int32)) at_362 rfl rfl ?_
      refine OwnW.callS0 (a0 := a0) (pc' := 366) (W := 0) (k' := 18) (n' := 52) (argsL := [(.int k), (.int c1), (.int n), (.int (1 : Int32))]) (rest := []) (St' := [(.int (f17 k c1 n (1 : Int32)))]) at_363 (hw _ (List.mem_of_getElem? (i := 98) rfl)) (hw _ (List.mem_of_getElem? (i := 99) rfl)) (hw _ (List.mem_of_getElem? (i := 6) rfl)) (hw _ (List.mem_of_getElem? (i := 100) rfl)) (by decide) (rm17 l Z a0 hw k c1 n (1 : Int32) hc n0) (by decide) (by decide) rfl rfl (by decide) (by decide) rfl pd_28ICII29Z rfl rfl rfl (Nat.le_of_ble_eq_true rfl) rfl rfl ?_
      by_cases hc366 : (f17 k c1 n (1 : Int32)) = (0 : Int32)
      ·
        refine OwnW.ifcY (pc' := 453) at_366 ((if0 _ _).trans (teq hc366).1) (by decide) (by decide) ?_
        refine OwnW.iconst (pc' := 454) (v := (0 : Int32)) at_453 rfl rfl ?_
        exact J353_454 _ (by first | simp only [if_neg hc353, if_pos hc366] | rfl)
      ·
        refine OwnW.ifcN (pc' := 369) at_366 ((if0 _ _).trans (feq hc366).1) rfl ?_
        refine OwnW.iload (pc' := 371) at_369 rfl rfl ?_
        refine OwnW.iload (pc' := 373) at_371 rfl rfl ?_
        refine OwnW.iload (pc' := 375) at_373 rfl rfl ?_
        refine OwnW.iconst (pc' := 376) (v := (2 : Int32)) at_375 rfl rfl ?_
        refine OwnW.callS0 (a0 := a0) (pc' := 379) (W := 0) (k' := 18) (n' := 52) (argsL := [(.int k), (.int c2), (.int n), (.int (2 : Int32))]) (rest := []) (St' := [(.int (f17 k c2 n (2 : Int32)))]) at_376 (hw _ (List.mem_of_getElem? (i := 98) rfl)) (hw _ (List.mem_of_getElem? (i := 99) rfl)) (hw _ (List.mem_of_getElem? (i := 6) rfl)) (hw _ (List.mem_of_getElem? (i := 100) rfl)) (by decide) (rm17 l Z a0 hw k c2 n (2 : Int32) hc n0) (by decide) (by decide) rfl rfl (by decide) (by decide) rfl pd_28ICII29Z rfl rfl rfl (Nat.le_of_ble_eq_true rfl) rfl rfl ?_
        by_cases hc379 : (f17 k c2 n (2 : Int32)) = (0 : Int32)
        ·
          refine OwnW.ifcY (pc' := 453) at_379 ((if0 _ _).trans (teq hc379).1) (by decide) (by decide) ?_
          refine OwnW.iconst (pc' := 454) (v := (0 : Int32)) at_453 rfl rfl ?_
          exact J353_454 _ (by first | simp only [if_neg hc353, if_neg hc366, if_pos hc379] | rfl)
        ·
          refine OwnW.ifcN (pc' := 382) at_379 ((if0 _ _).trans (feq hc379).1) rfl ?_
          refine OwnW.iload (pc' := 384) at_382 rfl rfl ?_
          refine OwnW.iload (pc' := 386) at_384 rfl rfl ?_
          refine OwnW.iload (pc' := 388) at_386 rfl rfl ?_
          refine OwnW.iconst (pc' := 389) (v := (3 : Int32)) at_388 rfl rfl ?_
          refine OwnW.callS0 (a0 := a0) (pc' := 392) (W := 0) (k' := 18) (n' := 52) (argsL := [(.int k), (.int c3), (.int n), (.int (3 : Int32))]) (rest := []) (St' := [(.int (f17 k c3 n (3 : Int32)))]) at_389 (hw _ (List.mem_of_getElem? (i := 98) rfl)) (hw _ (List.mem_of_getElem? (i := 99) rfl)) (hw _ (List.mem_of_getElem? (i := 6) rfl)) (hw _ (List.mem_of_getElem? (i := 100) rfl)) (by decide) (rm17 l Z a0 hw k c3 n (3 : Int32) hc n0) (by decide) (by decide) rfl rfl (by decide) (by decide) rfl pd_28ICII29Z rfl rfl rfl (Nat.le_of_ble_eq_true rfl) rfl rfl ?_
          by_cases hc392 : (f17 k c3 n (3 : Int32)) = (0 : Int32)
          ·
            refine OwnW.ifcY (pc' := 453) at_392 ((if0 _ _).trans (teq hc392).1) (by decide) (by decide) ?_
            refine OwnW.iconst (pc' := 454) (v := (0 : Int32)) at_453 rfl rfl ?_
            exact J353_454 _ (by first | simp only [if_neg hc353, if_neg hc366, if_neg hc379, if_pos hc392] | rfl)
          ·
            refine OwnW.ifcN (pc' := 395) at_392 ((if0 _ _).trans (feq hc392).1) rfl ?_
            refine OwnW.iload (pc' := 397) at_395 rfl rfl ?_
            refine OwnW.iload (pc' := 399) at_397 rfl rfl ?_
            refine OwnW.iload (pc' := 401) at_399 rfl rfl ?_
            refine OwnW.iconst (pc' := 402) (v := (4 : Int32)) at_401 rfl rfl ?_
            refine OwnW.callS0 (a0 := a0) (pc' := 405) (W := 0) (k' := 18) (n' := 52) (argsL := [(.int k), (.int c4), (.int n), (.int (4 : Int32))]) (rest := []) (St' := [(.int (f17 k c4 n (4 : Int32)))]) at_402 (hw _ (List.mem_of_getElem? (i := 98) rfl)) (hw _ (List.mem_of_getElem? (i := 99) rfl)) (hw _ (List.mem_of_getElem? (i := 6) rfl)) (hw _ (List.mem_of_getElem? (i := 100) rfl)) (by decide) (rm17 l Z a0 hw k c4 n (4 : Int32) hc n0) (by decide) (by decide) rfl rfl (by decide) (by decide) rfl pd_28ICII29Z rfl rfl rfl (Nat.le_of_ble_eq_true rfl) rfl rfl ?_
            by_cases hc405 : (f17 k c4 n (4 : Int32)) = (0 : Int32)
            ·
              refine OwnW.ifcY (pc' := 453) at_405 ((if0 _ _).trans (teq hc405).1) (by decide) (by decide) ?_
              refine OwnW.iconst (pc' := 454) (v := (0 : Int32)) at_453 rfl rfl ?_
              exact J353_454 _ (by first | simp only [if_neg hc353, if_neg hc366, if_neg hc379, if_neg hc392, if_pos hc405] | rfl)
            ·
              refine OwnW.ifcN (pc' := 408) at_405 ((if0 _ _).trans (feq hc405).1) rfl ?_
              refine OwnW.iload (pc' := 410) at_408 rfl rfl ?_
              refine OwnW.iload (pc' := 412) at_410 rfl rfl ?_
              refine OwnW.iload (pc' := 414) at_412 rfl rfl ?_
              refine OwnW.iconst (pc' := 415) (v := (5 : Int32)) at_414 rfl rfl ?_
              refine OwnW.callS0 (a0 := a0) (pc' := 418) (W := 0) (k' := 18) (n' := 52) (argsL := [(.int k), (.int c5), (.int n), (.int (5 : Int32))]) (rest := []) (St' := [(.int (f17 k c5 n (5 : Int32)))]) at_415 (hw _ (List.mem_of_getElem? (i := 98) rfl)) (hw _ (List.mem_of_getElem? (i := 99) rfl)) (hw _ (List.mem_of_getElem? (i := 6) rfl)) (hw _ (List.mem_of_getElem? (i := 100) rfl)) (by decide) (rm17 l Z a0 hw k c5 n (5 : Int32) hc n0) (by decide) (by decide) rfl rfl (by decide) (by decide) rfl pd_28ICII29Z rfl rfl rfl (Nat.le_of_ble_eq_true rfl) rfl rfl ?_
              by_cases hc418 : (f17 k c5 n (5 : Int32)) = (0 : Int32)
              ·
                refine OwnW.ifcY (pc' := 453) at_418 ((if0 _ _).trans (teq hc418).1) (by decide) (by decide) ?_
                refine OwnW.iconst (pc' := 454) (v := (0 : Int32)) at_453 rfl rfl ?_
                exact J353_454 _ (by first | simp only [if_neg hc353, if_neg hc366, if_neg hc379, if_neg hc392, if_neg hc405, if_pos hc418] | rfl)
              ·
                refine OwnW.ifcN (pc' := 421) at_418 ((if0 _ _).trans (feq hc418).1) rfl ?_
                refine OwnW.iload (pc' := 423) at_421 rfl rfl ?_
                refine OwnW.iload (pc' := 425) at_423 rfl rfl ?_
                refine OwnW.iload (pc' := 427) at_425 rfl rfl ?_
                refine OwnW.bipush (pc' := 429) (v := (6 : Int32)) at_427 rfl rfl ?_
                refine OwnW.callS0 (a0 := a0) (pc' := 432) (W := 0) (k' := 18) (n' := 52) (argsL := [(.int k), (.int c6), (.int n), (.int (6 : Int32))]) (rest := []) (St' := [(.int (f17 k c6 n (6 : Int32)))]) at_429 (hw _ (List.mem_of_getElem? (i := 98) rfl)) (hw _ (List.mem_of_getElem? (i := 99) rfl)) (hw _ (List.mem_of_getElem? (i := 6) rfl)) (hw _ (List.mem_of_getElem? (i := 100) rfl)) (by decide) (rm17 l Z a0 hw k c6 n (6 : Int32) hc n0) (by decide) (by decide) rfl rfl (by decide) (by decide) rfl pd_28ICII29Z rfl rfl rfl (Nat.le_of_ble_eq_true rfl) rfl rfl ?_
                by_cases hc432 : (f17 k c6 n (6 : Int32)) = (0 : Int32)
                ·
                  refine OwnW.ifcY (pc' := 453) at_432 ((if0 _ _).trans (teq hc432).1) (by decide) (by decide) ?_
                  refine OwnW.iconst (pc' := 454) (v := (0 : Int32)) at_453 rfl rfl ?_
                  exact J353_454 _ (by first | simp only [if_neg hc353, if_neg hc366, if_neg hc379, if_neg hc392, if_neg hc405, if_neg hc418, if_pos hc432] | rfl)
                ·
                  refine OwnW.ifcN (pc' := 435) at_432 ((if0 _ _).trans (feq hc432).1) rfl ?_
                  refine OwnW.iload (pc' := 437) at_435 rfl rfl ?_
                  refine OwnW.iload (pc' := 439) at_437 rfl rfl ?_
                  refine OwnW.iload (pc' := 441) at_439 rfl rfl ?_
                  refine OwnW.bipush (pc' := 443) (v := (7 : Int32)) at_441 rfl rfl ?_
                  refine OwnW.callS0 (a0 := a0) (pc' := 446) (W := 0) (k' := 18) (n' := 52) (argsL := [(.int k), (.int c7), (.int n), (.int (7 : Int32))]) (rest := []) (St' := [(.int (f17 k c7 n (7 : Int32)))]) at_443 (hw _ (List.mem_of_getElem? (i := 98) rfl)) (hw _ (List.mem_of_getElem? (i := 99) rfl)) (hw _ (List.mem_of_getElem? (i := 6) rfl)) (hw _ (List.mem_of_getElem? (i := 100) rfl)) (by decide) (rm17 l Z a0 hw k c7 n (7 : Int32) hc n0) (by decide) (by decide) rfl rfl (by decide) (by decide) rfl pd_28ICII29Z rfl rfl rfl (Nat.le_of_ble_eq_true rfl) rfl rfl ?_
                  by_cases hc446 : (f17 k c7 n (7 : Int32)) = (0 : Int32)
                  ·
                    refine OwnW.ifcY (pc' := 453) at_446 ((if0 _ _).trans (teq hc446).1) (by decide) (by decide) ?_
                    refine OwnW.iconst (pc' := 454) (v := (0 : Int32)) at_453 rfl rfl ?_
                    exact J353_454 _ (by first | simp only [if_neg hc353, if_neg hc366, if_neg hc379, if_neg hc392, if_neg hc405, if_neg hc418, if_neg hc432, if_pos hc446] | rfl)
                  ·
                    refine OwnW.ifcN (pc' := 449) at_446 ((if0 _ _).trans (feq hc446).1) rfl ?_
                    refine OwnW.iconst (pc' := 450) (v := (1 : Int32)) at_449 rfl rfl ?_
                    refine OwnW.goto (pc' := 454) at_450 (by decide) (by decide) ?_
                    exact J353_454 _ (by first | simp only [if_neg hc353, if_neg hc366, if_neg hc379, if_neg hc392, if_neg hc405, if_neg hc418, if_neg hc432, if_neg hc446] | rfl)
  intro wa hwa
  refine OwnW.istore (pc' := 456) (L' := #[.val (.int p0), .val (.int p1), .val (.long p2), .second, .val (.int p3), .val (.int k), .val (.ref e), .val (.int b), .val (.int n), .val (.int c0), .val (.int c1), .val (.int c2), .val (.int c3), .val (.int c4), .val (.int c5), .val (.int c6), .val (.int c7), .val yv, .val (.ref o), .val (.int (f16g o e b P hd)), .val (.int wa), .unset, .unset, .unset]) at_454 rfl rfl ?_
  refine OwnW.iload (pc' := 458) at_456 rfl rfl ?_
  refine OwnW.iconst (pc' := 459) (v := (1 : Int32)) at_458 rfl rfl ?_
  suffices J459_537 : ∀ (cl : Int32), cl = (if n = (1 : Int32) then c0 else (if n = (2 : Int32) then c1 else (if n = (3 : Int32) then c2 else (if n = (4 : Int32) then c3 else (if n = (5 : Int32) then c4 else (if n = (6 : Int32) then c5 else (if n = (7 : Int32) then c6 else c7))))))) → GoB0 l Z n0 OwnW.One1 hc 18 52 537 #[.val (.int p0), .val (.int p1), .val (.long p2), .second, .val (.int p3), .val (.int k), .val (.ref e), .val (.int b), .val (.int n), .val (.int c0), .val (.int c1), .val (.int c2), .val (.int c3), .val (.int c4), .val (.int c5), .val (.int c6), .val (.int c7), .val yv, .val (.ref o), .val (.int (f16g o e b P hd)), .val (.int wa), .unset, .unset, .unset] [(.int cl)] by
    by_cases hc459 : n = (1 : Int32)
    ·
      refine OwnW.icmpN (pc' := 462) at_459 (teq hc459).2 rfl ?_
      refine OwnW.iload (pc' := 464) at_462 rfl rfl ?_
      refine OwnW.goto (pc' := 537) at_464 (by decide) (by decide) ?_
      exact J459_537 _ (by first | simp only [if_pos hc459] | rfl)
    ·
      refine OwnW.icmpY (pc' := 467) at_459 (feq hc459).2 (by decide) (by decide) ?_
      refine OwnW.iload (pc' := 469) at_467 rfl rfl ?_
      refine OwnW.iconst (pc' := 470) (v := (2 : Int32)) at_469 rfl rfl ?_
      by_cases hc470 : n = (2 : Int32)
      ·
        refine OwnW.icmpN (pc' := 473) at_470 (teq hc470).2 rfl ?_
        refine OwnW.iload (pc' := 475) at_473 rfl rfl ?_
        refine OwnW.goto (pc' := 537) at_475 (by decide) (by decide) ?_
        exact J459_537 _ (by first | simp only [if_neg hc459, if_pos hc470] | rfl)
      ·
        refine OwnW.icmpY (pc' := 478) at_470 (feq hc470).2 (by decide) (by decide) ?_
        refine OwnW.iload (pc' := 480) at_478 rfl rfl ?_
        refine OwnW.iconst (pc' := 481) (v := (3 : Int32)) at_480 rfl rfl ?_
        by_cases hc481 : n = (3 : Int32)
        ·
          refine OwnW.icmpN (pc' := 484) at_481 (teq hc481).2 rfl ?_
          refine OwnW.iload (pc' := 486) at_484 rfl rfl ?_
          refine OwnW.goto (pc' := 537) at_486 (by decide) (by decide) ?_
          exact J459_537 _ (by first | simp only [if_neg hc459, if_neg hc470, if_pos hc481] | rfl)
        ·
          refine OwnW.icmpY (pc' := 489) at_481 (feq hc481).2 (by decide) (by decide) ?_
          refine OwnW.iload (pc' := 491) at_489 rfl rfl ?_
          refine OwnW.iconst (pc' := 492) (v := (4 : Int32)) at_491 rfl rfl ?_
          by_cases hc492 : n = (4 : Int32)
          ·
            refine OwnW.icmpN (pc' := 495) at_492 (teq hc492).2 rfl ?_
            refine OwnW.iload (pc' := 497) at_495 rfl rfl ?_
            refine OwnW.goto (pc' := 537) at_497 (by decide) (by decide) ?_
            exact J459_537 _ (by first | simp only [if_neg hc459, if_neg hc470, if_neg hc481, if_pos hc492] | rfl)
          ·
            refine OwnW.icmpY (pc' := 500) at_492 (feq hc492).2 (by decide) (by decide) ?_
            refine OwnW.iload (pc' := 502) at_500 rfl rfl ?_
            refine OwnW.iconst (pc' := 503) (v := (5 : Int32)) at_502 rfl rfl ?_
            by_cases hc503 : n = (5 : Int32)
            ·
              refine OwnW.icmpN (pc' := 506) at_503 (teq hc503).2 rfl ?_
              refine OwnW.iload (pc' := 508) at_506 rfl rfl ?_
              refine OwnW.goto (pc' := 537) at_508 (by decide) (by decide) ?_
              exact J459_537 _ (by first | simp only [if_neg hc459, if_neg hc470, if_neg hc481, if_neg hc492, if_pos hc503] | rfl)
            ·
              refine OwnW.icmpY (pc' := 511) at_503 (feq hc503).2 (by decide) (by decide) ?_
              refine OwnW.iload (pc' := 513) at_511 rfl rfl ?_
              refine OwnW.bipush (pc' := 515) (v := (6 : Int32)) at_513 rfl rfl ?_
              by_cases hc515 : n = (6 : Int32)
              ·
                refine OwnW.icmpN (pc' := 518) at_515 (teq hc515).2 rfl ?_
                refine OwnW.iload (pc' := 520) at_518 rfl rfl ?_
                refine OwnW.goto (pc' := 537) at_520 (by decide) (by decide) ?_
                exact J459_537 _ (by first | simp only [if_neg hc459, if_neg hc470, if_neg hc481, if_neg hc492, if_neg hc503, if_pos hc515] | rfl)
              ·
                refine OwnW.icmpY (pc' := 523) at_515 (feq hc515).2 (by decide) (by decide) ?_
                refine OwnW.iload (pc' := 525) at_523 rfl rfl ?_
                refine OwnW.bipush (pc' := 527) (v := (7 : Int32)) at_525 rfl rfl ?_
                by_cases hc527 : n = (7 : Int32)
                ·
                  refine OwnW.icmpN (pc' := 530) at_527 (teq hc527).2 rfl ?_
                  refine OwnW.iload (pc' := 532) at_530 rfl rfl ?_
                  refine OwnW.goto (pc' := 537) at_532 (by decide) (by decide) ?_
                  exact J459_537 _ (by first | simp only [if_neg hc459, if_neg hc470, if_neg hc481, if_neg hc492, if_neg hc503, if_neg hc515, if_pos hc527] | rfl)
                ·
                  refine OwnW.icmpY (pc' := 535) at_527 (feq hc527).2 (by decide) (by decide) ?_
                  refine OwnW.iload (pc' := 537) at_535 rfl rfl ?_
                  exact J459_537 _ (by first | simp only [if_neg hc459, if_neg hc470, if_neg hc481, if_neg hc492, if_neg hc503, if_neg hc515, if_neg hc527] | rfl)
  intro cl hcl
  refine OwnW.istore (pc' := 539) (L' := #[.val (.int p0), .val (.int p1), .val (.long p2), .second, .val (.int p3), .val (.int k), .val (.ref e), .val (.int b), .val (.int n), .val (.int c0), .val (.int c1), .val (.int c2), .val (.int c3), .val (.int c4), .val (.int c5), .val (.int c6), .val (.int c7), .val yv, .val (.ref o), .val (.int (f16g o e b P hd)), .val (.int wa), .val (.int cl), .unset, .unset]) at_537 rfl rfl ?_
  refine OwnW.iload (pc' := 541) at_539 rfl rfl ?_
  refine OwnW.iload (pc' := 543) at_541 rfl rfl ?_
  refine OwnW.imul (pc' := 544) at_543 rfl ?_
  refine OwnW.bipush (pc' := 546) (v := (8 : Int32)) at_544 rfl rfl ?_
  refine OwnW.irem (pc' := 547) at_546 (by decide) rfl ?_
  refine OwnW.istore (pc' := 549) (L' := #[.val (.int p0), .val (.int p1), .val (.long p2), .second, .val (.int p3), .val (.int k), .val (.ref e), .val (.int b), .val (.int n), .val (.int c0), .val (.int c1), .val (.int c2), .val (.int c3), .val (.int c4), .val (.int c5), .val (.int c6), .val (.int c7), .val yv, .val (.ref o), .val (.int (f16g o e b P hd)), .val (.int wa), .val (.int cl), .val (.int ((n * b) % (8 : Int32))), .unset]) at_547 rfl rfl ?_
  refine OwnW.iload (pc' := 551) at_549 rfl rfl ?_
  suffices J551_588 : ∀ (wn : Int32), wn = (if wa = (0 : Int32) then (0 : Int32) else (if ((n * b) % (8 : Int32)) < b then (if n = (0 : Int32) then (1 : Int32) else (if ((f18 k cl) &&& (((1 : Int32) <<< (((n * b) % (8 : Int32)) &&& 31)) - (1 : Int32))) = (0 : Int32) then (1 : Int32) else (0 : Int32))) else (0 : Int32))) → GoB0 l Z n0 OwnW.One1 hc 18 52 588 #[.val (.int p0), .val (.int p1), .val (.long p2), .second, .val (.int p3), .val (.int k), .val (.ref e), .val (.int b), .val (.int n), .val (.int c0), .val (.int c1), .val (.int c2), .val (.int c3), .val (.int c4), .val (.int c5), .val (.int c6), .val (.int c7), .val yv, .val (.ref o), .val (.int (f16g o e b P hd)), .val (.int wa), .val (.int cl), .val (.int ((n * b) % (8 : Int32))), .unset] [(.int wn)] by
    by_cases hc551 : wa = (0 : Int32)
    ·
      refine OwnW.ifcY (pc' := 587) at_551 ((if0 _ _).trans (teq hc551).1) (by decide) (by decide) ?_
      refine OwnW.iconst (pc' := 588) (v := (0 : Int32)) at_587 rfl rfl ?_
      exact J551_588 _ (by first | simp only [if_pos hc551] | rfl)
    ·
      refine OwnW.ifcN (pc' := 554) at_551 ((if0 _ _).trans (feq hc551).1) rfl ?_
      refine OwnW.iload (pc' := 556) at_554 rfl rfl ?_
      refine OwnW.iload (pc' := 558) at_556 rfl rfl ?_
      by_cases hc558 : ((n * b) % (8 : Int32)) < b
      ·
        refine OwnW.icmpN (pc' := 561) at_558 (tlt hc558).2.1 rfl ?_
        refine OwnW.iload (pc' := 563) at_561 rfl rfl ?_
        by_cases hc563 : n = (0 : Int32)
        ·
          refine OwnW.ifcY (pc' := 583) at_563 ((if0 _ _).trans (teq hc563).1) (by decide) (by decide) ?_
          refine OwnW.iconst (pc' := 584) (v := (1 : Int32)) at_583 rfl rfl ?_
          refine OwnW.goto (pc' := 588) at_584 (by decide) (by decide) ?_
          exact J551_588 _ (by first | simp only [if_neg hc551, if_pos hc558, if_pos hc563] | rfl)
        ·
          refine OwnW.ifcN (pc' := 566) at_563 ((if0 _ _).trans (feq hc563).1) rfl ?_
          refine OwnW.iload (pc' := 568) at_566 rfl rfl ?_
          refine OwnW.iload (pc' := 570) at_568 rfl rfl ?_
          refine OwnW.callS0 (a0 := a0) (pc' := 573) (W := 0) (k' := 18) (n' := 52) (argsL := [(.int k), (.int cl)]) (rest := []) (St' := [(.int (f18 k cl))]) at_570 (hw _ (List.mem_of_getElem? (i := 101) rfl)) (hw _ (List.mem_of_getElem? (i := 102) rfl)) (hw _ (List.mem_of_getElem? (i := 6) rfl)) (hw _ (List.mem_of_getElem? (i := 103) rfl)) (by decide) (rm18 l Z a0 hw k cl hc n0) (by decide) (by decide) rfl rfl (by decide) (by decide) rfl pd_28IC29I rfl rfl rfl (Nat.le_of_ble_eq_true rfl) rfl rfl ?_
          refine OwnW.iconst (pc' := 574) (v := (1 : Int32)) at_573 rfl rfl ?_
          refine OwnW.iload (pc' := 576) at_574 rfl rfl ?_
          refine OwnW.ishl (pc' := 577) at_576 rfl ?_
          refine OwnW.iconst (pc' := 578) (v := (1 : Int32)) at_577 rfl rfl ?_
          refine OwnW.isub (pc' := 579) at_578 rfl ?_
          refine OwnW.iand (pc' := 580) at_579 rfl ?_
          by_cases hc580 : ((f18 k cl) &&& (((1 : Int32) <<< (((n * b) % (8 : Int32)) &&& 31)) - (1 : Int32))) = (0 : Int32)
          ·
            refine OwnW.ifcN (pc' := 583) at_580 ((if0 _ _).trans (teq hc580).2) rfl ?_
            refine OwnW.iconst (pc' := 584) (v := (1 : Int32)) at_583 rfl rfl ?_
            refine OwnW.goto (pc' := 588) at_584 (by decide) (by decide) ?_
            exact J551_588 _ (by first | simp only [if_neg hc551, if_pos hc558, if_neg hc563, if_pos hc580] | rfl)
          ·
            refine OwnW.ifcY (pc' := 587) at_580 ((if0 _ _).trans (feq hc580).2) (by decide) (by decide) ?_
            refine OwnW.iconst (pc' := 588) (v := (0 : Int32)) at_587 rfl rfl ?_
            exact J551_588 _ (by first | simp only [if_neg hc551, if_pos hc558, if_neg hc563, if_neg hc580] | rfl)
      ·
        refine OwnW.icmpY (pc' := 587) at_558 (flt hc558).2.1 (by decide) (by decide) ?_
        refine OwnW.iconst (pc' := 588) (v := (0 : Int32)) at_587 rfl rfl ?_
        exact J551_588 _ (by first | simp only [if_neg hc551, if_neg hc558] | rfl)
  intro wn hwn
  refine OwnW.istore (pc' := 590) (L' := #[.val (.int p0), .val (.int p1), .val (.long p2), .second, .val (.int p3), .val (.int k), .val (.ref e), .val (.int b), .val (.int n), .val (.int c0), .val (.int c1), .val (.int c2), .val (.int c3), .val (.int c4), .val (.int c5), .val (.int c6), .val (.int c7), .val yv, .val (.ref o), .val (.int (f16g o e b P hd)), .val (.int wa), .val (.int cl), .val (.int ((n * b) % (8 : Int32))), .val (.int wn)]) at_588 rfl rfl ?_
  refine OwnW.iload (pc' := 592) at_590 rfl rfl ?_
  refine OwnW.iload (pc' := 594) at_592 rfl rfl ?_
  refine OwnW.icmpN (pc' := 597) at_594 (teq (own_lawG hk hI hwa hcl hwn)).2 rfl ?_
  refine OwnW.iconst (pc' := 598) (v := (1 : Int32)) at_597 rfl rfl ?_
  refine OwnW.goto (pc' := 602) at_598 (by decide) (by decide) ?_
  exact OwnW.retN (t := .boolean) at_602 rfl (by simp) rfl (by decide) (by decide) (rfl)
set_option maxRecDepth 65536 in
set_option maxHeartbeats 400000000 in
theorem partz7 (l : Launch) (Z : State) (a0 : Array Value) (hw : ∀ d ∈ tables_1, d.before a0 Z = true) (p0 : Int32) (p1 : Int32) (p2 : Int64) (p3 : Int32) (k : Int32) (e : Addr) (b : Int32) (n : Int32) (c0 : Int32) (c1 : Int32) (c2 : Int32) (c3 : Int32) (c4 : Int32) (c5 : Int32) (c6 : Int32) (c7 : Int32) (o : Addr) (yv : Value) (cs : Int32) (sv : Value) (h0 hc : Heap) (n0 : Nat) (Z0 : n0 ≤ hc.size) (XB : Ext h0 hc) (g_o : n0 ≤ o) (z_o : h0.size ≤ o) (E_o : Exa Z hc o "com/example/plumbline/plumbline/BaseEncoding$Reading") (F_al : Fld Z hc o "com/example/plumbline/plumbline/BaseEncoding$Reading" "inAlphabet" "Z" (.int (0 : Int32))) (S_CS : Sta Z h0 "java/lang/String" "COMPACT_STRINGS" "Z" (.int cs)) (S_SF : Sta Z h0 "jdk/internal/util/Preconditions" "SIOOBE_FORMATTER" "Ljava/util/function/BiFunction;" sv) (hcs : ¬ cs = (0 : Int32)) (hsv : sv.isRef = true) (hk : own_K k b) (hb : own_C c0 c1 c2 c3 c4 c5 c6 c7) (hB : own_B k n c0 c1 c2 c3 c4 c5 c6 c7) :
    GoB0 l Z n0 OwnW.One1 hc 16 47 319 #[.val (.int p0), .val (.int p1), .val (.long p2), .second, .val (.int p3), .val (.int k), .val (.ref e), .val (.int b), .val (.int n), .val (.int c0), .val (.int c1), .val (.int c2), .val (.int c3), .val (.int c4), .val (.int c5), .val (.int c6), .val (.int c7), .val yv, .val (.ref o), .unset, .unset, .unset, .unset, .unset] [] := by
  refine OwnW.iload (pc' := 321) at_319 rfl rfl ?_
  refine OwnW.bipush (pc' := 323) (v := (7 : Int32)) at_321 rfl rfl ?_
  by_cases hc323 : (7 : Int32) < n
  ·
    refine OwnW.icmpN (pc' := 326) at_323 (tlt hc323).2.2.2 rfl ?_
    refine OwnW.aload (pc' := 328) at_326 rfl (rfl) rfl ?_
    refine OwnW.iload (pc' := 330) at_328 rfl rfl ?_
    refine OwnW.callS (a0 := a0) (pc' := 333) (W := 1) (k' := 18) (n' := 52) (argsL := [(.int c7)]) (rest := [(.ref o)]) at_330 (hw _ (List.mem_of_getElem? (i := 24) rfl)) (hw _ (List.mem_of_getElem? (i := 25) rfl)) (hw _ (List.mem_of_getElem? (i := 26) rfl)) (hw _ (List.mem_of_getElem? (i := 27) rfl)) (by decide) (rm4 l Z a0 hw c7 cs hc n0 Z0 (S_CS.ext XB) hcs (own_c7 hb).2) (by decide) (by decide) rfl rfl (by decide) (by decide) rfl pd_28C29Ljava2flang2fString3b rfl rfl rfl (Nat.le_of_ble_eq_true rfl) rfl ?_
    rintro h1 v1 ⟨ad1_0, ad1_1, kc1_0, rfl, K1, gl1_0, gl1_1, nn1_0_1, Fc1_0, Fc1_1, Fc1_2, Fc1_3⟩
    have lt_o_ad1_0 : @LT.lt Nat _ o ad1_0 := Nat.lt_of_lt_of_le (E_o).lt gl1_0
    have ge_ad1_0 : n0 ≤ ad1_0 := Nat.le_trans Z0 gl1_0
    have lt_o_ad1_1 : @LT.lt Nat _ o ad1_1 := Nat.lt_of_lt_of_le (E_o).lt gl1_1
    have ge_ad1_1 : n0 ≤ ad1_1 := Nat.le_trans Z0 gl1_1
    have X2 : Ext h0 h1 := OwnW.ext_keep XB K1 all0
    have sz3 : n0 ≤ h1.size := Nat.le_trans Z0 K1.1
    show GoB0 l Z n0 OwnW.One1 h1 18 52 333 #[.val (.int p0), .val (.int p1), .val (.long p2), .second, .val (.int p3), .val (.int k), .val (.ref e), .val (.int b), .val (.int n), .val (.int c0), .val (.int c1), .val (.int c2), .val (.int c3), .val (.int c4), .val (.int c5), .val (.int c6), .val (.int c7), .val yv, .val (.ref o), .unset, .unset, .unset, .unset, .unset] [(.ref ad1_0), (.ref o)]
    have F4 := (E_o.keep K1)
    have F5 := (F_al.keep K1 nin0)
    refine OwnW.callV (a0 := a0) (pc' := 336) (W := 0) (k' := 18) (n' := 52) (argsL := [(.ref ad1_0)]) (rest := []) at_333 (hw _ (List.mem_of_getElem? (i := 48) rfl)) (hw _ (List.mem_of_getElem? (i := 49) rfl)) (hw _ (List.mem_of_getElem? (i := 51) rfl)) (hw _ (List.mem_of_getElem? (i := 50) rfl)) (hw _ (List.mem_of_getElem? (i := 11) rfl)) (hw _ (List.mem_of_getElem? (i := 52) rfl)) (by decide) F4 (rm8z l Z a0 hw o ad1_0 cs ad1_1 kc1_0 (nar .byte (c7.toInt8.toInt32)) sv h1 n0 sz3 g_o F4 F5 Fc1_0 Fc1_2 Fc1_1 Fc1_3 (S_CS.ext X2) (S_SF.ext X2) hcs hsv) (by decide) (by decide) rfl rfl (by decide) (by decide) rfl pd_28Ljava2flang2fCharSequence3b29V rfl rfl rfl (Nat.le_of_ble_eq_true rfl) rfl ?_
    rintro h6 v6 ⟨rfl, K6, Fc6_0, Fc6_1⟩
    have X7 : Ext h0 h6 := OwnW.ext_keep X2 K6 (allS z_o all0)
    have sz8 : n0 ≤ h6.size := Nat.le_trans sz3 K6.1
    show GoB0 l Z n0 OwnW.One1 h6 18 52 336 #[.val (.int p0), .val (.int p1), .val (.long p2), .second, .val (.int p3), .val (.int k), .val (.ref e), .val (.int b), .val (.int n), .val (.int c0), .val (.int c1), .val (.int c2), .val (.int c3), .val (.int c4), .val (.int c5), .val (.int c6), .val (.int c7), .val yv, .val (.ref o), .unset, .unset, .unset, .unset, .unset] []
    exact OwnW.Go.more (by decide) (by decide) (tailZ l Z a0 hw p0 p1 p2 p3 k e b n c0 c1 c2 c3 c4 c5 c6 c7 o yv cs sv h0 h6 n0 sz8 X7 Fc6_0 Fc6_1 S_CS S_SF hk hB)
  ·
    refine OwnW.icmpY (pc' := 336) at_323 (flt hc323).2.2.2 (by decide) (by decide) ?_
    exact OwnW.Go.more (by decide) (by decide) (tailZ l Z a0 hw p0 p1 p2 p3 k e b n c0 c1 c2 c3 c4 c5 c6 c7 o yv cs sv h0 hc n0 Z0 XB E_o F_al S_CS S_SF hk hB)
set_option maxRecDepth 65536 in
set_option maxHeartbeats 400000000 in
theorem partn7 (l : Launch) (Z : State) (a0 : Array Value) (hw : ∀ d ∈ tables_1, d.before a0 Z = true) (p0 : Int32) (p1 : Int32) (p2 : Int64) (p3 : Int32) (k : Int32) (e : Addr) (b : Int32) (n : Int32) (c0 : Int32) (c1 : Int32) (c2 : Int32) (c3 : Int32) (c4 : Int32) (c5 : Int32) (c6 : Int32) (c7 : Int32) (o : Addr) (P : Int32) (hd : Int32) (cnt : Int32) (t : Addr) (cs : Int32) (sv : Value) (h0 hc : Heap) (n0 : Nat) (Z0 : n0 ≤ hc.size) (XB : Ext h0 hc) (g_o : n0 ≤ o) (z_o : h0.size ≤ o) (E_o : Exa Z hc o "com/example/plumbline/plumbline/BaseEncoding$Reading") (F_al : Fld Z hc o "com/example/plumbline/plumbline/BaseEncoding$Reading" "inAlphabet" "Z" (.int (1 : Int32))) (F_enc : Fld Z hc o "com/example/plumbline/plumbline/BaseEncoding$Reading" "encoding" "Lcom/example/plumbline/plumbline/BaseEncoding;" (.ref e)) (F_P : Fld Z hc o "com/example/plumbline/plumbline/BaseEncoding$Reading" "pending" "I" (.int P)) (F_hd : Fld Z hc o "com/example/plumbline/plumbline/BaseEncoding$Reading" "held" "I" (.int hd)) (F_by : Fld Z hc o "com/example/plumbline/plumbline/BaseEncoding$Reading" "bytes" "[B" .null) (F_cnt : Fld Z hc o "com/example/plumbline/plumbline/BaseEncoding$Reading" "count" "I" (.int cnt)) (F_b : Fld Z hc e "com/example/plumbline/plumbline/BaseEncoding" "bits" "I" (.int b)) (E_e : Exa Z hc e "com/example/plumbline/plumbline/BaseEncoding") (F_t : Fld Z hc e "com/example/plumbline/plumbline/BaseEncoding" "values" "[I" (.ref t)) (T_t : Tab Z hc t k) (S_CS : Sta Z h0 "java/lang/String" "COMPACT_STRINGS" "Z" (.int cs)) (S_SF : Sta Z h0 "jdk/internal/util/Preconditions" "SIOOBE_FORMATTER" "Ljava/util/function/BiFunction;" sv) (ne_e_o : e ≠ o) (ne_t_o : t ≠ o) (hcs : ¬ cs = (0 : Int32)) (hsv : sv.isRef = true) (hk : own_K k b) (hb : own_C c0 c1 c2 c3 c4 c5 c6 c7) (hI : own_I 7 k b n hd P c0 c1 c2 c3 c4 c5 c6 c7) :
    GoB0 l Z n0 OwnW.One1 hc 16 47 319 #[.val (.int p0), .val (.int p1), .val (.long p2), .second, .val (.int p3), .val (.int k), .val (.ref e), .val (.int b), .val (.int n), .val (.int c0), .val (.int c1), .val (.int c2), .val (.int c3), .val (.int c4), .val (.int c5), .val (.int c6), .val (.int c7), .val .null, .val (.ref o), .unset, .unset, .unset, .unset, .unset] [] := by
  refine OwnW.iload (pc' := 321) at_319 rfl rfl ?_
  refine OwnW.bipush (pc' := 323) (v := (7 : Int32)) at_321 rfl rfl ?_
  by_cases hc323 : (7 : Int32) < n
  ·
    refine OwnW.icmpN (pc' := 326) at_323 (tlt hc323).2.2.2 rfl ?_
    refine OwnW.aload (pc' := 328) at_326 rfl (rfl) rfl ?_
    refine OwnW.iload (pc' := 330) at_328 rfl rfl ?_
    refine OwnW.callS (a0 := a0) (pc' := 333) (W := 1) (k' := 18) (n' := 52) (argsL := [(.int c7)]) (rest := [(.ref o)]) at_330 (hw _ (List.mem_of_getElem? (i := 24) rfl)) (hw _ (List.mem_of_getElem? (i := 25) rfl)) (hw _ (List.mem_of_getElem? (i := 26) rfl)) (hw _ (List.mem_of_getElem? (i := 27) rfl)) (by decide) (rm4 l Z a0 hw c7 cs hc n0 Z0 (S_CS.ext XB) hcs (own_c7 hb).2) (by decide) (by decide) rfl rfl (by decide) (by decide) rfl pd_28C29Ljava2flang2fString3b rfl rfl rfl (Nat.le_of_ble_eq_true rfl) rfl ?_
    rintro h1 v1 ⟨ad1_0, ad1_1, kc1_0, rfl, K1, gl1_0, gl1_1, nn1_0_1, Fc1_0, Fc1_1, Fc1_2, Fc1_3⟩
    have lt_o_ad1_0 : @LT.lt Nat _ o ad1_0 := Nat.lt_of_lt_of_le (E_o).lt gl1_0
    have lt_e_ad1_0 : @LT.lt Nat _ e ad1_0 := Nat.lt_of_lt_of_le (E_e).lt gl1_0
    have lt_t_ad1_0 : @LT.lt Nat _ t ad1_0 := Nat.lt_of_lt_of_le (T_t).lt gl1_0
    have ge_ad1_0 : n0 ≤ ad1_0 := Nat.le_trans Z0 gl1_0
    have lt_o_ad1_1 : @LT.lt Nat _ o ad1_1 := Nat.lt_of_lt_of_le (E_o).lt gl1_1
    have lt_e_ad1_1 : @LT.lt Nat _ e ad1_1 := Nat.lt_of_lt_of_le (E_e).lt gl1_1
    have lt_t_ad1_1 : @LT.lt Nat _ t ad1_1 := Nat.lt_of_lt_of_le (T_t).lt gl1_1
    have ge_ad1_1 : n0 ≤ ad1_1 := Nat.le_trans Z0 gl1_1
    have X2 : Ext h0 h1 := OwnW.ext_keep XB K1 all0
    have sz3 : n0 ≤ h1.size := Nat.le_trans Z0 K1.1
    show GoB0 l Z n0 OwnW.One1 h1 18 52 333 #[.val (.int p0), .val (.int p1), .val (.long p2), .second, .val (.int p3), .val (.int k), .val (.ref e), .val (.int b), .val (.int n), .val (.int c0), .val (.int c1), .val (.int c2), .val (.int c3), .val (.int c4), .val (.int c5), .val (.int c6), .val (.int c7), .val .null, .val (.ref o), .unset, .unset, .unset, .unset, .unset] [(.ref ad1_0), (.ref o)]
    by_cases hv : (f18 k c7) < (0 : Int32)
    ·
      have F4 := (E_o.keep K1)
      have F5 := (F_al.keep K1 nin0)
      have F6 := (F_enc.keep K1 nin0)
      have F7 := (F_P.keep K1 nin0)
      have F8 := (F_hd.keep K1 nin0)
      have F9 := (F_by.keep K1 nin0)
      have F10 := (F_cnt.keep K1 nin0)
      have F11 := (F_b.keep K1 nin0)
      have F12 := (E_e.keep K1)
      have F13 := (F_t.keep K1 nin0)
      have F14 := (T_t.keep K1 nin0)
      refine OwnW.callV (a0 := a0) (pc' := 336) (W := 0) (k' := 18) (n' := 52) (argsL := [(.ref ad1_0)]) (rest := []) at_333 (hw _ (List.mem_of_getElem? (i := 48) rfl)) (hw _ (List.mem_of_getElem? (i := 49) rfl)) (hw _ (List.mem_of_getElem? (i := 51) rfl)) (hw _ (List.mem_of_getElem? (i := 50) rfl)) (hw _ (List.mem_of_getElem? (i := 11) rfl)) (hw _ (List.mem_of_getElem? (i := 52) rfl)) (by decide) F4 (rm8xn l Z a0 hw o ad1_0 cs ad1_1 kc1_0 (nar .byte (c7.toInt8.toInt32)) sv c7 P hd cnt e b k t h1 n0 sz3 g_o F4 F5 F6 F7 F8 F9 F10 Fc1_0 Fc1_2 Fc1_1 Fc1_3 (S_CS.ext X2) (S_SF.ext X2) F11 F12 F13 F14 hcs hsv (own_ch (own_c7 hb)) (own_c7 hb).1 hv (Ne.symm (Nat.ne_of_lt lt_o_ad1_0)) (Ne.symm (Nat.ne_of_lt lt_o_ad1_1)) ne_e_o ne_t_o) (by decide) (by decide) rfl rfl (by decide) (by decide) rfl pd_28Ljava2flang2fCharSequence3b29V rfl rfl rfl (Nat.le_of_ble_eq_true rfl) rfl ?_
      rintro h15 v15 ⟨rfl, K15, Fc15_0, Fc15_1⟩
      have X16 : Ext h0 h15 := OwnW.ext_keep X2 K15 (allS z_o all0)
      have sz17 : n0 ≤ h15.size := Nat.le_trans sz3 K15.1
      show GoB0 l Z n0 OwnW.One1 h15 18 52 336 #[.val (.int p0), .val (.int p1), .val (.long p2), .second, .val (.int p3), .val (.int k), .val (.ref e), .val (.int b), .val (.int n), .val (.int c0), .val (.int c1), .val (.int c2), .val (.int c3), .val (.int c4), .val (.int c5), .val (.int c6), .val (.int c7), .val .null, .val (.ref o), .unset, .unset, .unset, .unset, .unset] []
      exact OwnW.Go.more (by decide) (by decide) (tailZ l Z a0 hw p0 p1 p2 p3 k e b n c0 c1 c2 c3 c4 c5 c6 c7 o Value.null cs sv h0 h15 n0 sz17 X16 Fc15_0 Fc15_1 S_CS S_SF hk (own_B7 hv hc323))
    ·
      by_cases hlt : (hd + b) < (8 : Int32)
      ·
        have F18 := (E_o.keep K1)
        have F19 := (F_al.keep K1 nin0)
        have F20 := (F_enc.keep K1 nin0)
        have F21 := (F_P.keep K1 nin0)
        have F22 := (F_hd.keep K1 nin0)
        have F23 := (F_by.keep K1 nin0)
        have F24 := (F_cnt.keep K1 nin0)
        have F25 := (F_b.keep K1 nin0)
        have F26 := (E_e.keep K1)
        have F27 := (F_t.keep K1 nin0)
        have F28 := (T_t.keep K1 nin0)
        refine OwnW.callV (a0 := a0) (pc' := 336) (W := 0) (k' := 18) (n' := 52) (argsL := [(.ref ad1_0)]) (rest := []) at_333 (hw _ (List.mem_of_getElem? (i := 48) rfl)) (hw _ (List.mem_of_getElem? (i := 49) rfl)) (hw _ (List.mem_of_getElem? (i := 51) rfl)) (hw _ (List.mem_of_getElem? (i := 50) rfl)) (hw _ (List.mem_of_getElem? (i := 11) rfl)) (hw _ (List.mem_of_getElem? (i := 52) rfl)) (by decide) F18 (rm8sn l Z a0 hw o ad1_0 cs ad1_1 kc1_0 (nar .byte (c7.toInt8.toInt32)) sv c7 P hd cnt e b k t h1 n0 sz3 g_o F18 F19 F20 F21 F22 F23 F24 Fc1_0 Fc1_2 Fc1_1 Fc1_3 (S_CS.ext X2) (S_SF.ext X2) F25 F26 F27 F28 hcs hsv (own_ch (own_c7 hb)) (own_c7 hb).1 hv hlt (Ne.symm (Nat.ne_of_lt lt_o_ad1_0)) (Ne.symm (Nat.ne_of_lt lt_o_ad1_1)) ne_e_o ne_t_o) (by decide) (by decide) rfl rfl (by decide) (by decide) rfl pd_28Ljava2flang2fCharSequence3b29V rfl rfl rfl (Nat.le_of_ble_eq_true rfl) rfl ?_
        rintro h29 v29 ⟨rfl, K29, Fc29_0, Fc29_1, Fc29_2, Fc29_3, Fc29_4, Fc29_5, Fc29_6⟩
        have X30 : Ext h0 h29 := OwnW.ext_keep X2 K29 (allS z_o all0)
        have sz31 : n0 ≤ h29.size := Nat.le_trans sz3 K29.1
        show GoB0 l Z n0 OwnW.One1 h29 18 52 336 #[.val (.int p0), .val (.int p1), .val (.long p2), .second, .val (.int p3), .val (.int k), .val (.ref e), .val (.int b), .val (.int n), .val (.int c0), .val (.int c1), .val (.int c2), .val (.int c3), .val (.int c4), .val (.int c5), .val (.int c6), .val (.int c7), .val .null, .val (.ref o), .unset, .unset, .unset, .unset, .unset] []
        have F32 := (F25.keep K29 (ninS ne_e_o nin0))
        exact OwnW.Go.more (by decide) (by decide) (tailG l Z a0 hw p0 p1 p2 p3 k e b n c0 c1 c2 c3 c4 c5 c6 c7 o Value.null (((P <<< (b &&& 31)) ||| (f18 k c7))) ((hd + b)) cs sv h0 h29 n0 sz31 X30 Fc29_0 Fc29_1 Fc29_2 Fc29_3 Fc29_4 F32 S_CS S_SF hk (own_I8 (own_Is7 hk hI hv hlt hc323)))
      ·
        have F33 := (E_o.keep K1)
        have F34 := (F_al.keep K1 nin0)
        have F35 := (F_enc.keep K1 nin0)
        have F36 := (F_P.keep K1 nin0)
        have F37 := (F_hd.keep K1 nin0)
        have F38 := (F_by.keep K1 nin0)
        have F39 := (F_cnt.keep K1 nin0)
        have F40 := (F_b.keep K1 nin0)
        have F41 := (E_e.keep K1)
        have F42 := (F_t.keep K1 nin0)
        have F43 := (T_t.keep K1 nin0)
        refine OwnW.callV (a0 := a0) (pc' := 336) (W := 0) (k' := 18) (n' := 52) (argsL := [(.ref ad1_0)]) (rest := []) at_333 (hw _ (List.mem_of_getElem? (i := 48) rfl)) (hw _ (List.mem_of_getElem? (i := 49) rfl)) (hw _ (List.mem_of_getElem? (i := 51) rfl)) (hw _ (List.mem_of_getElem? (i := 50) rfl)) (hw _ (List.mem_of_getElem? (i := 11) rfl)) (hw _ (List.mem_of_getElem? (i := 52) rfl)) (by decide) F33 (rm8nn l Z a0 hw o ad1_0 cs ad1_1 kc1_0 (nar .byte (c7.toInt8.toInt32)) sv c7 P hd cnt e b k t h1 n0 sz3 g_o F33 F34 F35 F36 F37 F38 F39 Fc1_0 Fc1_2 Fc1_1 Fc1_3 (S_CS.ext X2) (S_SF.ext X2) F40 F41 F42 F43 hcs hsv (own_ch (own_c7 hb)) (own_c7 hb).1 hv hlt (Ne.symm (Nat.ne_of_lt lt_o_ad1_0)) (Ne.symm (Nat.ne_of_lt lt_o_ad1_1)) ne_e_o ne_t_o) (by decide) (by decide) rfl rfl (by decide) (by decide) rfl pd_28Ljava2flang2fCharSequence3b29V rfl rfl rfl (Nat.le_of_ble_eq_true rfl) rfl ?_
        rintro h44 v44 ⟨rfl, K44, Fc44_0, Fc44_1, Fc44_2, Fc44_3, Fc44_4, Fc44_5, Fc44_6⟩
        have X45 : Ext h0 h44 := OwnW.ext_keep X2 K44 (allS z_o all0)
        have sz46 : n0 ≤ h44.size := Nat.le_trans sz3 K44.1
        show GoB0 l Z n0 OwnW.One1 h44 18 52 336 #[.val (.int p0), .val (.int p1), .val (.long p2), .second, .val (.int p3), .val (.int k), .val (.ref e), .val (.int b), .val (.int n), .val (.int c0), .val (.int c1), .val (.int c2), .val (.int c3), .val (.int c4), .val (.int c5), .val (.int c6), .val (.int c7), .val .null, .val (.ref o), .unset, .unset, .unset, .unset, .unset] []
        have F47 := (F40.keep K44 (ninS ne_e_o nin0))
        exact OwnW.Go.more (by decide) (by decide) (tailG l Z a0 hw p0 p1 p2 p3 k e b n c0 c1 c2 c3 c4 c5 c6 c7 o Value.null ((((P <<< (b &&& 31)) ||| (f18 k c7)) &&& (((1 : Int32) <<< (((hd + b) - (8 : Int32)) &&& 31)) - (1 : Int32)))) (((hd + b) - (8 : Int32))) cs sv h0 h44 n0 sz46 X45 Fc44_0 Fc44_1 Fc44_2 Fc44_3 Fc44_4 F47 S_CS S_SF hk (own_I8 (own_Il7 hk hI hv hlt hc323)))
  ·
    refine OwnW.icmpY (pc' := 336) at_323 (flt hc323).2.2.2 (by decide) (by decide) ?_
    exact OwnW.Go.more (by decide) (by decide) (tailG l Z a0 hw p0 p1 p2 p3 k e b n c0 c1 c2 c3 c4 c5 c6 c7 o Value.null P hd cs sv h0 hc n0 Z0 XB E_o F_al F_enc F_P F_hd F_b S_CS S_SF hk (own_Iend hI hc323))
set_option maxRecDepth 65536 in
set_option maxHeartbeats 400000000 in
theorem parta7 (l : Launch) (Z : State) (a0 : Array Value) (hw : ∀ d ∈ tables_1, d.before a0 Z = true) (p0 : Int32) (p1 : Int32) (p2 : Int64) (p3 : Int32) (k : Int32) (e : Addr) (b : Int32) (n : Int32) (c0 : Int32) (c1 : Int32) (c2 : Int32) (c3 : Int32) (c4 : Int32) (c5 : Int32) (c6 : Int32) (c7 : Int32) (o : Addr) (ya : Addr) (P : Int32) (hd : Int32) (cnt : Int32) (t : Addr) (cs : Int32) (sv : Value) (h0 hc : Heap) (n0 : Nat) (Z0 : n0 ≤ hc.size) (XB : Ext h0 hc) (g_o : n0 ≤ o) (z_o : h0.size ≤ o) (g_ya : n0 ≤ ya) (z_ya : h0.size ≤ ya) (E_o : Exa Z hc o "com/example/plumbline/plumbline/BaseEncoding$Reading") (F_al : Fld Z hc o "com/example/plumbline/plumbline/BaseEncoding$Reading" "inAlphabet" "Z" (.int (1 : Int32))) (F_enc : Fld Z hc o "com/example/plumbline/plumbline/BaseEncoding$Reading" "encoding" "Lcom/example/plumbline/plumbline/BaseEncoding;" (.ref e)) (F_P : Fld Z hc o "com/example/plumbline/plumbline/BaseEncoding$Reading" "pending" "I" (.int P)) (F_hd : Fld Z hc o "com/example/plumbline/plumbline/BaseEncoding$Reading" "held" "I" (.int hd)) (F_by : Fld Z hc o "com/example/plumbline/plumbline/BaseEncoding$Reading" "bytes" "[B" (.ref ya)) (F_cnt : Fld Z hc o "com/example/plumbline/plumbline/BaseEncoding$Reading" "count" "I" (.int cnt)) (F_b : Fld Z hc e "com/example/plumbline/plumbline/BaseEncoding" "bits" "I" (.int b)) (E_e : Exa Z hc e "com/example/plumbline/plumbline/BaseEncoding") (F_t : Fld Z hc e "com/example/plumbline/plumbline/BaseEncoding" "values" "[I" (.ref t)) (T_t : Tab Z hc t k) (Y_by : Byt Z hc ya) (S_CS : Sta Z h0 "java/lang/String" "COMPACT_STRINGS" "Z" (.int cs)) (S_SF : Sta Z h0 "jdk/internal/util/Preconditions" "SIOOBE_FORMATTER" "Ljava/util/function/BiFunction;" sv) (ne_e_o : e ≠ o) (ne_t_o : t ≠ o) (ne_ya_o : ya ≠ o) (ne_e_ya : e ≠ ya) (ne_t_ya : t ≠ ya) (hcs : ¬ cs = (0 : Int32)) (hsv : sv.isRef = true) (hk : own_K k b) (hb : own_C c0 c1 c2 c3 c4 c5 c6 c7) (hI : own_I 7 k b n hd P c0 c1 c2 c3 c4 c5 c6 c7) (hY : own_Y 7 b cnt) :
    GoB0 l Z n0 OwnW.One1 hc 16 47 319 #[.val (.int p0), .val (.int p1), .val (.long p2), .second, .val (.int p3), .val (.int k), .val (.ref e), .val (.int b), .val (.int n), .val (.int c0), .val (.int c1), .val (.int c2), .val (.int c3), .val (.int c4), .val (.int c5), .val (.int c6), .val (.int c7), .val (.ref ya), .val (.ref o), .unset, .unset, .unset, .unset, .unset] [] := by
  refine OwnW.iload (pc' := 321) at_319 rfl rfl ?_
  refine OwnW.bipush (pc' := 323) (v := (7 : Int32)) at_321 rfl rfl ?_
  by_cases hc323 : (7 : Int32) < n
  ·
    refine OwnW.icmpN (pc' := 326) at_323 (tlt hc323).2.2.2 rfl ?_
    refine OwnW.aload (pc' := 328) at_326 rfl (rfl) rfl ?_
    refine OwnW.iload (pc' := 330) at_328 rfl rfl ?_
    refine OwnW.callS (a0 := a0) (pc' := 333) (W := 1) (k' := 18) (n' := 52) (argsL := [(.int c7)]) (rest := [(.ref o)]) at_330 (hw _ (List.mem_of_getElem? (i := 24) rfl)) (hw _ (List.mem_of_getElem? (i := 25) rfl)) (hw _ (List.mem_of_getElem? (i := 26) rfl)) (hw _ (List.mem_of_getElem? (i := 27) rfl)) (by decide) (rm4 l Z a0 hw c7 cs hc n0 Z0 (S_CS.ext XB) hcs (own_c7 hb).2) (by decide) (by decide) rfl rfl (by decide) (by decide) rfl pd_28C29Ljava2flang2fString3b rfl rfl rfl (Nat.le_of_ble_eq_true rfl) rfl ?_
    rintro h1 v1 ⟨ad1_0, ad1_1, kc1_0, rfl, K1, gl1_0, gl1_1, nn1_0_1, Fc1_0, Fc1_1, Fc1_2, Fc1_3⟩
    have lt_o_ad1_0 : @LT.lt Nat _ o ad1_0 := Nat.lt_of_lt_of_le (E_o).lt gl1_0
    have lt_e_ad1_0 : @LT.lt Nat _ e ad1_0 := Nat.lt_of_lt_of_le (E_e).lt gl1_0
    have lt_t_ad1_0 : @LT.lt Nat _ t ad1_0 := Nat.lt_of_lt_of_le (T_t).lt gl1_0
    have lt_ya_ad1_0 : @LT.lt Nat _ ya ad1_0 := Nat.lt_of_lt_of_le (Y_by).lt gl1_0
    have ge_ad1_0 : n0 ≤ ad1_0 := Nat.le_trans Z0 gl1_0
    have lt_o_ad1_1 : @LT.lt Nat _ o ad1_1 := Nat.lt_of_lt_of_le (E_o).lt gl1_1
    have lt_e_ad1_1 : @LT.lt Nat _ e ad1_1 := Nat.lt_of_lt_of_le (E_e).lt gl1_1
    have lt_t_ad1_1 : @LT.lt Nat _ t ad1_1 := Nat.lt_of_lt_of_le (T_t).lt gl1_1
    have lt_ya_ad1_1 : @LT.lt Nat _ ya ad1_1 := Nat.lt_of_lt_of_le (Y_by).lt gl1_1
    have ge_ad1_1 : n0 ≤ ad1_1 := Nat.le_trans Z0 gl1_1
    have X2 : Ext h0 h1 := OwnW.ext_keep XB K1 all0
    have sz3 : n0 ≤ h1.size := Nat.le_trans Z0 K1.1
    show GoB0 l Z n0 OwnW.One1 h1 18 52 333 #[.val (.int p0), .val (.int p1), .val (.long p2), .second, .val (.int p3), .val (.int k), .val (.ref e), .val (.int b), .val (.int n), .val (.int c0), .val (.int c1), .val (.int c2), .val (.int c3), .val (.int c4), .val (.int c5), .val (.int c6), .val (.int c7), .val (.ref ya), .val (.ref o), .unset, .unset, .unset, .unset, .unset] [(.ref ad1_0), (.ref o)]
    by_cases hv : (f18 k c7) < (0 : Int32)
    ·
      have F4 := (E_o.keep K1)
      have F5 := (F_al.keep K1 nin0)
      have F6 := (F_enc.keep K1 nin0)
      have F7 := (F_P.keep K1 nin0)
      have F8 := (F_hd.keep K1 nin0)
      have F9 := (F_by.keep K1 nin0)
      have F10 := (F_cnt.keep K1 nin0)
      have F11 := (F_b.keep K1 nin0)
      have F12 := (E_e.keep K1)
      have F13 := (F_t.keep K1 nin0)
      have F14 := (T_t.keep K1 nin0)
      refine OwnW.callV (a0 := a0) (pc' := 336) (W := 0) (k' := 18) (n' := 52) (argsL := [(.ref ad1_0)]) (rest := []) at_333 (hw _ (List.mem_of_getElem? (i := 48) rfl)) (hw _ (List.mem_of_getElem? (i := 49) rfl)) (hw _ (List.mem_of_getElem? (i := 51) rfl)) (hw _ (List.mem_of_getElem? (i := 50) rfl)) (hw _ (List.mem_of_getElem? (i := 11) rfl)) (hw _ (List.mem_of_getElem? (i := 52) rfl)) (by decide) F4 (rm8xa l Z a0 hw o ad1_0 cs ad1_1 kc1_0 (nar .byte (c7.toInt8.toInt32)) sv c7 P hd cnt e b k t ya h1 n0 sz3 g_o F4 F5 F6 F7 F8 F9 F10 Fc1_0 Fc1_2 Fc1_1 Fc1_3 (S_CS.ext X2) (S_SF.ext X2) F11 F12 F13 F14 hcs hsv (own_ch (own_c7 hb)) (own_c7 hb).1 hv (Ne.symm (Nat.ne_of_lt lt_o_ad1_0)) (Ne.symm (Nat.ne_of_lt lt_o_ad1_1)) ne_e_o ne_t_o ne_ya_o (Ne.symm (Nat.ne_of_lt lt_ya_ad1_0)) (Ne.symm (Nat.ne_of_lt lt_ya_ad1_1)) ne_e_ya ne_t_ya) (by decide) (by decide) rfl rfl (by decide) (by decide) rfl pd_28Ljava2flang2fCharSequence3b29V rfl rfl rfl (Nat.le_of_ble_eq_true rfl) rfl ?_
      rintro h15 v15 ⟨rfl, K15, Fc15_0, Fc15_1⟩
      have X16 : Ext h0 h15 := OwnW.ext_keep X2 K15 (allS z_o all0)
      have sz17 : n0 ≤ h15.size := Nat.le_trans sz3 K15.1
      show GoB0 l Z n0 OwnW.One1 h15 18 52 336 #[.val (.int p0), .val (.int p1), .val (.long p2), .second, .val (.int p3), .val (.int k), .val (.ref e), .val (.int b), .val (.int n), .val (.int c0), .val (.int c1), .val (.int c2), .val (.int c3), .val (.int c4), .val (.int c5), .val (.int c6), .val (.int c7), .val (.ref ya), .val (.ref o), .unset, .unset, .unset, .unset, .unset] []
      exact OwnW.Go.more (by decide) (by decide) (tailZ l Z a0 hw p0 p1 p2 p3 k e b n c0 c1 c2 c3 c4 c5 c6 c7 o ((Value.ref ya)) cs sv h0 h15 n0 sz17 X16 Fc15_0 Fc15_1 S_CS S_SF hk (own_B7 hv hc323))
    ·
      by_cases hlt : (hd + b) < (8 : Int32)
      ·
        have F18 := (E_o.keep K1)
        have F19 := (F_al.keep K1 nin0)
        have F20 := (F_enc.keep K1 nin0)
        have F21 := (F_P.keep K1 nin0)
        have F22 := (F_hd.keep K1 nin0)
        have F23 := (F_by.keep K1 nin0)
        have F24 := (F_cnt.keep K1 nin0)
        have F25 := (F_b.keep K1 nin0)
        have F26 := (E_e.keep K1)
        have F27 := (F_t.keep K1 nin0)
        have F28 := (T_t.keep K1 nin0)
        refine OwnW.callV (a0 := a0) (pc' := 336) (W := 0) (k' := 18) (n' := 52) (argsL := [(.ref ad1_0)]) (rest := []) at_333 (hw _ (List.mem_of_getElem? (i := 48) rfl)) (hw _ (List.mem_of_getElem? (i := 49) rfl)) (hw _ (List.mem_of_getElem? (i := 51) rfl)) (hw _ (List.mem_of_getElem? (i := 50) rfl)) (hw _ (List.mem_of_getElem? (i := 11) rfl)) (hw _ (List.mem_of_getElem? (i := 52) rfl)) (by decide) F18 (rm8sa l Z a0 hw o ad1_0 cs ad1_1 kc1_0 (nar .byte (c7.toInt8.toInt32)) sv c7 P hd cnt e b k t ya h1 n0 sz3 g_o F18 F19 F20 F21 F22 F23 F24 Fc1_0 Fc1_2 Fc1_1 Fc1_3 (S_CS.ext X2) (S_SF.ext X2) F25 F26 F27 F28 hcs hsv (own_ch (own_c7 hb)) (own_c7 hb).1 hv hlt (Ne.symm (Nat.ne_of_lt lt_o_ad1_0)) (Ne.symm (Nat.ne_of_lt lt_o_ad1_1)) ne_e_o ne_t_o ne_ya_o (Ne.symm (Nat.ne_of_lt lt_ya_ad1_0)) (Ne.symm (Nat.ne_of_lt lt_ya_ad1_1)) ne_e_ya ne_t_ya) (by decide) (by decide) rfl rfl (by decide) (by decide) rfl pd_28Ljava2flang2fCharSequence3b29V rfl rfl rfl (Nat.le_of_ble_eq_true rfl) rfl ?_
        rintro h29 v29 ⟨rfl, K29, Fc29_0, Fc29_1, Fc29_2, Fc29_3, Fc29_4, Fc29_5, Fc29_6⟩
        have X30 : Ext h0 h29 := OwnW.ext_keep X2 K29 (allS z_o all0)
        have sz31 : n0 ≤ h29.size := Nat.le_trans sz3 K29.1
        show GoB0 l Z n0 OwnW.One1 h29 18 52 336 #[.val (.int p0), .val (.int p1), .val (.long p2), .second, .val (.int p3), .val (.int k), .val (.ref e), .val (.int b), .val (.int n), .val (.int c0), .val (.int c1), .val (.int c2), .val (.int c3), .val (.int c4), .val (.int c5), .val (.int c6), .val (.int c7), .val (.ref ya), .val (.ref o), .unset, .unset, .unset, .unset, .unset] []
        have F32 := (F25.keep K29 (ninS ne_e_o nin0))
        exact OwnW.Go.more (by decide) (by decide) (tailG l Z a0 hw p0 p1 p2 p3 k e b n c0 c1 c2 c3 c4 c5 c6 c7 o ((Value.ref ya)) (((P <<< (b &&& 31)) ||| (f18 k c7))) ((hd + b)) cs sv h0 h29 n0 sz31 X30 Fc29_0 Fc29_1 Fc29_2 Fc29_3 Fc29_4 F32 S_CS S_SF hk (own_I8 (own_Is7 hk hI hv hlt hc323)))
      ·
        have F33 := (E_o.keep K1)
        have F34 := (F_al.keep K1 nin0)
        have F35 := (F_enc.keep K1 nin0)
        have F36 := (F_P.keep K1 nin0)
        have F37 := (F_hd.keep K1 nin0)
        have F38 := (F_by.keep K1 nin0)
        have F39 := (F_cnt.keep K1 nin0)
        have F40 := (F_b.keep K1 nin0)
        have F41 := (E_e.keep K1)
        have F42 := (F_t.keep K1 nin0)
        have F43 := (T_t.keep K1 nin0)
        have F44 := (Y_by.keep K1 nin0)
        refine OwnW.callV (a0 := a0) (pc' := 336) (W := 0) (k' := 18) (n' := 52) (argsL := [(.ref ad1_0)]) (rest := []) at_333 (hw _ (List.mem_of_getElem? (i := 48) rfl)) (hw _ (List.mem_of_getElem? (i := 49) rfl)) (hw _ (List.mem_of_getElem? (i := 51) rfl)) (hw _ (List.mem_of_getElem? (i := 50) rfl)) (hw _ (List.mem_of_getElem? (i := 11) rfl)) (hw _ (List.mem_of_getElem? (i := 52) rfl)) (by decide) F33 (rm8aa l Z a0 hw o ad1_0 cs ad1_1 kc1_0 (nar .byte (c7.toInt8.toInt32)) sv c7 P hd cnt e b k t ya h1 n0 sz3 g_o g_ya F33 F34 F35 F36 F37 F38 F39 Fc1_0 Fc1_2 Fc1_1 Fc1_3 (S_CS.ext X2) (S_SF.ext X2) F40 F41 F42 F43 F44 hcs hsv (own_ch (own_c7 hb)) (own_c7 hb).1 hv hlt (own_cnt hk hY) (Ne.symm (Nat.ne_of_lt lt_o_ad1_0)) (Ne.symm (Nat.ne_of_lt lt_o_ad1_1)) ne_e_o ne_t_o ne_ya_o (Ne.symm (Nat.ne_of_lt lt_ya_ad1_0)) (Ne.symm (Nat.ne_of_lt lt_ya_ad1_1)) ne_e_ya ne_t_ya) (by decide) (by decide) rfl rfl (by decide) (by decide) rfl pd_28Ljava2flang2fCharSequence3b29V rfl rfl rfl (Nat.le_of_ble_eq_true rfl) rfl ?_
        rintro h45 v45 ⟨rfl, K45, Fc45_0, Fc45_1, Fc45_2, Fc45_3, Fc45_4, Fc45_5, Fc45_6, Fc45_7⟩
        have X46 : Ext h0 h45 := OwnW.ext_keep X2 K45 (allS z_o (allS z_ya all0))
        have sz47 : n0 ≤ h45.size := Nat.le_trans sz3 K45.1
        show GoB0 l Z n0 OwnW.One1 h45 18 52 336 #[.val (.int p0), .val (.int p1), .val (.long p2), .second, .val (.int p3), .val (.int k), .val (.ref e), .val (.int b), .val (.int n), .val (.int c0), .val (.int c1), .val (.int c2), .val (.int c3), .val (.int c4), .val (.int c5), .val (.int c6), .val (.int c7), .val (.ref ya), .val (.ref o), .unset, .unset, .unset, .unset, .unset] []
        have F48 := (F40.keep K45 (ninS ne_e_o (ninS ne_e_ya nin0)))
        exact OwnW.Go.more (by decide) (by decide) (tailG l Z a0 hw p0 p1 p2 p3 k e b n c0 c1 c2 c3 c4 c5 c6 c7 o ((Value.ref ya)) ((((P <<< (b &&& 31)) ||| (f18 k c7)) &&& (((1 : Int32) <<< (((hd + b) - (8 : Int32)) &&& 31)) - (1 : Int32)))) (((hd + b) - (8 : Int32))) cs sv h0 h45 n0 sz47 X46 Fc45_0 Fc45_1 Fc45_2 Fc45_3 Fc45_4 F48 S_CS S_SF hk (own_I8 (own_Il7 hk hI hv hlt hc323)))
  ·
    refine OwnW.icmpY (pc' := 336) at_323 (flt hc323).2.2.2 (by decide) (by decide) ?_
    exact OwnW.Go.more (by decide) (by decide) (tailG l Z a0 hw p0 p1 p2 p3 k e b n c0 c1 c2 c3 c4 c5 c6 c7 o ((Value.ref ya)) P hd cs sv h0 hc n0 Z0 XB E_o F_al F_enc F_P F_hd F_b S_CS S_SF hk (own_Iend hI hc323))
set_option maxRecDepth 65536 in
set_option maxHeartbeats 400000000 in
theorem partz6 (l : Launch) (Z : State) (a0 : Array Value) (hw : ∀ d ∈ tables_1, d.before a0 Z = true) (p0 : Int32) (p1 : Int32) (p2 : Int64) (p3 : Int32) (k : Int32) (e : Addr) (b : Int32) (n : Int32) (c0 : Int32) (c1 : Int32) (c2 : Int32) (c3 : Int32) (c4 : Int32) (c5 : Int32) (c6 : Int32) (c7 : Int32) (o : Addr) (yv : Value) (cs : Int32) (sv : Value) (h0 hc : Heap) (n0 : Nat) (Z0 : n0 ≤ hc.size) (XB : Ext h0 hc) (g_o : n0 ≤ o) (z_o : h0.size ≤ o) (E_o : Exa Z hc o "com/example/plumbline/plumbline/BaseEncoding$Reading") (F_al : Fld Z hc o "com/example/plumbline/plumbline/BaseEncoding$Reading" "inAlphabet" "Z" (.int (0 : Int32))) (S_CS : Sta Z h0 "java/lang/String" "COMPACT_STRINGS" "Z" (.int cs)) (S_SF : Sta Z h0 "jdk/internal/util/Preconditions" "SIOOBE_FORMATTER" "Ljava/util/function/BiFunction;" sv) (hcs : ¬ cs = (0 : Int32)) (hsv : sv.isRef = true) (hk : own_K k b) (hb : own_C c0 c1 c2 c3 c4 c5 c6 c7) (hB : own_B k n c0 c1 c2 c3 c4 c5 c6 c7) :
    GoB0 l Z n0 OwnW.One1 hc 14 42 302 #[.val (.int p0), .val (.int p1), .val (.long p2), .second, .val (.int p3), .val (.int k), .val (.ref e), .val (.int b), .val (.int n), .val (.int c0), .val (.int c1), .val (.int c2), .val (.int c3), .val (.int c4), .val (.int c5), .val (.int c6), .val (.int c7), .val yv, .val (.ref o), .unset, .unset, .unset, .unset, .unset] [] := by
  refine OwnW.iload (pc' := 304) at_302 rfl rfl ?_
  refine OwnW.bipush (pc' := 306) (v := (6 : Int32)) at_304 rfl rfl ?_
  by_cases hc306 : (6 : Int32) < n
  ·
    refine OwnW.icmpN (pc' := 309) at_306 (tlt hc306).2.2.2 rfl ?_
    refine OwnW.aload (pc' := 311) at_309 rfl (rfl) rfl ?_
    refine OwnW.iload (pc' := 313) at_311 rfl rfl ?_
    refine OwnW.callS (a0 := a0) (pc' := 316) (W := 1) (k' := 16) (n' := 47) (argsL := [(.int c6)]) (rest := [(.ref o)]) at_313 (hw _ (List.mem_of_getElem? (i := 24) rfl)) (hw _ (List.mem_of_getElem? (i := 25) rfl)) (hw _ (List.mem_of_getElem? (i := 26) rfl)) (hw _ (List.mem_of_getElem? (i := 27) rfl)) (by decide) (rm4 l Z a0 hw c6 cs hc n0 Z0 (S_CS.ext XB) hcs (own_c6 hb).2) (by decide) (by decide) rfl rfl (by decide) (by decide) rfl pd_28C29Ljava2flang2fString3b rfl rfl rfl (Nat.le_of_ble_eq_true rfl) rfl ?_
    rintro h1 v1 ⟨ad1_0, ad1_1, kc1_0, rfl, K1, gl1_0, gl1_1, nn1_0_1, Fc1_0, Fc1_1, Fc1_2, Fc1_3⟩
    have lt_o_ad1_0 : @LT.lt Nat _ o ad1_0 := Nat.lt_of_lt_of_le (E_o).lt gl1_0
    have ge_ad1_0 : n0 ≤ ad1_0 := Nat.le_trans Z0 gl1_0
    have lt_o_ad1_1 : @LT.lt Nat _ o ad1_1 := Nat.lt_of_lt_of_le (E_o).lt gl1_1
    have ge_ad1_1 : n0 ≤ ad1_1 := Nat.le_trans Z0 gl1_1
    have X2 : Ext h0 h1 := OwnW.ext_keep XB K1 all0
    have sz3 : n0 ≤ h1.size := Nat.le_trans Z0 K1.1
    show GoB0 l Z n0 OwnW.One1 h1 16 47 316 #[.val (.int p0), .val (.int p1), .val (.long p2), .second, .val (.int p3), .val (.int k), .val (.ref e), .val (.int b), .val (.int n), .val (.int c0), .val (.int c1), .val (.int c2), .val (.int c3), .val (.int c4), .val (.int c5), .val (.int c6), .val (.int c7), .val yv, .val (.ref o), .unset, .unset, .unset, .unset, .unset] [(.ref ad1_0), (.ref o)]
    have F4 := (E_o.keep K1)
    have F5 := (F_al.keep K1 nin0)
    refine OwnW.callV (a0 := a0) (pc' := 319) (W := 0) (k' := 16) (n' := 47) (argsL := [(.ref ad1_0)]) (rest := []) at_316 (hw _ (List.mem_of_getElem? (i := 48) rfl)) (hw _ (List.mem_of_getElem? (i := 49) rfl)) (hw _ (List.mem_of_getElem? (i := 51) rfl)) (hw _ (List.mem_of_getElem? (i := 50) rfl)) (hw _ (List.mem_of_getElem? (i := 11) rfl)) (hw _ (List.mem_of_getElem? (i := 52) rfl)) (by decide) F4 (rm8z l Z a0 hw o ad1_0 cs ad1_1 kc1_0 (nar .byte (c6.toInt8.toInt32)) sv h1 n0 sz3 g_o F4 F5 Fc1_0 Fc1_2 Fc1_1 Fc1_3 (S_CS.ext X2) (S_SF.ext X2) hcs hsv) (by decide) (by decide) rfl rfl (by decide) (by decide) rfl pd_28Ljava2flang2fCharSequence3b29V rfl rfl rfl (Nat.le_of_ble_eq_true rfl) rfl ?_
    rintro h6 v6 ⟨rfl, K6, Fc6_0, Fc6_1⟩
    have X7 : Ext h0 h6 := OwnW.ext_keep X2 K6 (allS z_o all0)
    have sz8 : n0 ≤ h6.size := Nat.le_trans sz3 K6.1
    show GoB0 l Z n0 OwnW.One1 h6 16 47 319 #[.val (.int p0), .val (.int p1), .val (.long p2), .second, .val (.int p3), .val (.int k), .val (.ref e), .val (.int b), .val (.int n), .val (.int c0), .val (.int c1), .val (.int c2), .val (.int c3), .val (.int c4), .val (.int c5), .val (.int c6), .val (.int c7), .val yv, .val (.ref o), .unset, .unset, .unset, .unset, .unset] []
    exact OwnW.Go.more (by decide) (by decide) (partz7 l Z a0 hw p0 p1 p2 p3 k e b n c0 c1 c2 c3 c4 c5 c6 c7 o yv cs sv h0 h6 n0 sz8 X7 g_o z_o Fc6_0 Fc6_1 S_CS S_SF hcs hsv hk hb hB)
  ·
    refine OwnW.icmpY (pc' := 319) at_306 (flt hc306).2.2.2 (by decide) (by decide) ?_
    refine OwnW.iload (pc' := 321) at_319 rfl rfl ?_
    refine OwnW.bipush (pc' := 323) (v := (7 : Int32)) at_321 rfl rfl ?_
    refine OwnW.icmpY (pc' := 336) at_323 (flt (own_nlt hc306 (by decide))).2.2.2 (by decide) (by decide) ?_
    exact OwnW.Go.more (by decide) (by decide) (tailZ l Z a0 hw p0 p1 p2 p3 k e b n c0 c1 c2 c3 c4 c5 c6 c7 o yv cs sv h0 hc n0 Z0 XB E_o F_al S_CS S_SF hk hB)
set_option maxRecDepth 65536 in
set_option maxHeartbeats 400000000 in
theorem partn6 (l : Launch) (Z : State) (a0 : Array Value) (hw : ∀ d ∈ tables_1, d.before a0 Z = true) (p0 : Int32) (p1 : Int32) (p2 : Int64) (p3 : Int32) (k : Int32) (e : Addr) (b : Int32) (n : Int32) (c0 : Int32) (c1 : Int32) (c2 : Int32) (c3 : Int32) (c4 : Int32) (c5 : Int32) (c6 : Int32) (c7 : Int32) (o : Addr) (P : Int32) (hd : Int32) (cnt : Int32) (t : Addr) (cs : Int32) (sv : Value) (h0 hc : Heap) (n0 : Nat) (Z0 : n0 ≤ hc.size) (XB : Ext h0 hc) (g_o : n0 ≤ o) (z_o : h0.size ≤ o) (E_o : Exa Z hc o "com/example/plumbline/plumbline/BaseEncoding$Reading") (F_al : Fld Z hc o "com/example/plumbline/plumbline/BaseEncoding$Reading" "inAlphabet" "Z" (.int (1 : Int32))) (F_enc : Fld Z hc o "com/example/plumbline/plumbline/BaseEncoding$Reading" "encoding" "Lcom/example/plumbline/plumbline/BaseEncoding;" (.ref e)) (F_P : Fld Z hc o "com/example/plumbline/plumbline/BaseEncoding$Reading" "pending" "I" (.int P)) (F_hd : Fld Z hc o "com/example/plumbline/plumbline/BaseEncoding$Reading" "held" "I" (.int hd)) (F_by : Fld Z hc o "com/example/plumbline/plumbline/BaseEncoding$Reading" "bytes" "[B" .null) (F_cnt : Fld Z hc o "com/example/plumbline/plumbline/BaseEncoding$Reading" "count" "I" (.int cnt)) (F_b : Fld Z hc e "com/example/plumbline/plumbline/BaseEncoding" "bits" "I" (.int b)) (E_e : Exa Z hc e "com/example/plumbline/plumbline/BaseEncoding") (F_t : Fld Z hc e "com/example/plumbline/plumbline/BaseEncoding" "values" "[I" (.ref t)) (T_t : Tab Z hc t k) (S_CS : Sta Z h0 "java/lang/String" "COMPACT_STRINGS" "Z" (.int cs)) (S_SF : Sta Z h0 "jdk/internal/util/Preconditions" "SIOOBE_FORMATTER" "Ljava/util/function/BiFunction;" sv) (ne_e_o : e ≠ o) (ne_t_o : t ≠ o) (hcs : ¬ cs = (0 : Int32)) (hsv : sv.isRef = true) (hk : own_K k b) (hb : own_C c0 c1 c2 c3 c4 c5 c6 c7) (hI : own_I 6 k b n hd P c0 c1 c2 c3 c4 c5 c6 c7) :
    GoB0 l Z n0 OwnW.One1 hc 14 42 302 #[.val (.int p0), .val (.int p1), .val (.long p2), .second, .val (.int p3), .val (.int k), .val (.ref e), .val (.int b), .val (.int n), .val (.int c0), .val (.int c1), .val (.int c2), .val (.int c3), .val (.int c4), .val (.int c5), .val (.int c6), .val (.int c7), .val .null, .val (.ref o), .unset, .unset, .unset, .unset, .unset] [] := by
  refine OwnW.iload (pc' := 304) at_302 rfl rfl ?_
  refine OwnW.bipush (pc' := 306) (v := (6 : Int32)) at_304 rfl rfl ?_
  by_cases hc306 : (6 : Int32) < n
  ·
    refine OwnW.icmpN (pc' := 309) at_306 (tlt hc306).2.2.2 rfl ?_
    refine OwnW.aload (pc' := 311) at_309 rfl (rfl) rfl ?_
    refine OwnW.iload (pc' := 313) at_311 rfl rfl ?_
    refine OwnW.callS (a0 := a0) (pc' := 316) (W := 1) (k' := 16) (n' := 47) (argsL := [(.int c6)]) (rest := [(.ref o)]) at_313 (hw _ (List.mem_of_getElem? (i := 24) rfl)) (hw _ (List.mem_of_getElem? (i := 25) rfl)) (hw _ (List.mem_of_getElem? (i := 26) rfl)) (hw _ (List.mem_of_getElem? (i := 27) rfl)) (by decide) (rm4 l Z a0 hw c6 cs hc n0 Z0 (S_CS.ext XB) hcs (own_c6 hb).2) (by decide) (by decide) rfl rfl (by decide) (by decide) rfl pd_28C29Ljava2flang2fString3b rfl rfl rfl (Nat.le_of_ble_eq_true rfl) rfl ?_
    rintro h1 v1 ⟨ad1_0, ad1_1, kc1_0, rfl, K1, gl1_0, gl1_1, nn1_0_1, Fc1_0, Fc1_1, Fc1_2, Fc1_3⟩
    have lt_o_ad1_0 : @LT.lt Nat _ o ad1_0 := Nat.lt_of_lt_of_le (E_o).lt gl1_0
    have lt_e_ad1_0 : @LT.lt Nat _ e ad1_0 := Nat.lt_of_lt_of_le (E_e).lt gl1_0
    have lt_t_ad1_0 : @LT.lt Nat _ t ad1_0 := Nat.lt_of_lt_of_le (T_t).lt gl1_0
    have ge_ad1_0 : n0 ≤ ad1_0 := Nat.le_trans Z0 gl1_0
    have lt_o_ad1_1 : @LT.lt Nat _ o ad1_1 := Nat.lt_of_lt_of_le (E_o).lt gl1_1
    have lt_e_ad1_1 : @LT.lt Nat _ e ad1_1 := Nat.lt_of_lt_of_le (E_e).lt gl1_1
    have lt_t_ad1_1 : @LT.lt Nat _ t ad1_1 := Nat.lt_of_lt_of_le (T_t).lt gl1_1
    have ge_ad1_1 : n0 ≤ ad1_1 := Nat.le_trans Z0 gl1_1
    have X2 : Ext h0 h1 := OwnW.ext_keep XB K1 all0
    have sz3 : n0 ≤ h1.size := Nat.le_trans Z0 K1.1
    show GoB0 l Z n0 OwnW.One1 h1 16 47 316 #[.val (.int p0), .val (.int p1), .val (.long p2), .second, .val (.int p3), .val (.int k), .val (.ref e), .val (.int b), .val (.int n), .val (.int c0), .val (.int c1), .val (.int c2), .val (.int c3), .val (.int c4), .val (.int c5), .val (.int c6), .val (.int c7), .val .null, .val (.ref o), .unset, .unset, .unset, .unset, .unset] [(.ref ad1_0), (.ref o)]
    by_cases hv : (f18 k c6) < (0 : Int32)
    ·
      have F4 := (E_o.keep K1)
      have F5 := (F_al.keep K1 nin0)
      have F6 := (F_enc.keep K1 nin0)
      have F7 := (F_P.keep K1 nin0)
      have F8 := (F_hd.keep K1 nin0)
      have F9 := (F_by.keep K1 nin0)
      have F10 := (F_cnt.keep K1 nin0)
      have F11 := (F_b.keep K1 nin0)
      have F12 := (E_e.keep K1)
      have F13 := (F_t.keep K1 nin0)
      have F14 := (T_t.keep K1 nin0)
      refine OwnW.callV (a0 := a0) (pc' := 319) (W := 0) (k' := 16) (n' := 47) (argsL := [(.ref ad1_0)]) (rest := []) at_316 (hw _ (List.mem_of_getElem? (i := 48) rfl)) (hw _ (List.mem_of_getElem? (i := 49) rfl)) (hw _ (List.mem_of_getElem? (i := 51) rfl)) (hw _ (List.mem_of_getElem? (i := 50) rfl)) (hw _ (List.mem_of_getElem? (i := 11) rfl)) (hw _ (List.mem_of_getElem? (i := 52) rfl)) (by decide) F4 (rm8xn l Z a0 hw o ad1_0 cs ad1_1 kc1_0 (nar .byte (c6.toInt8.toInt32)) sv c6 P hd cnt e b k t h1 n0 sz3 g_o F4 F5 F6 F7 F8 F9 F10 Fc1_0 Fc1_2 Fc1_1 Fc1_3 (S_CS.ext X2) (S_SF.ext X2) F11 F12 F13 F14 hcs hsv (own_ch (own_c6 hb)) (own_c6 hb).1 hv (Ne.symm (Nat.ne_of_lt lt_o_ad1_0)) (Ne.symm (Nat.ne_of_lt lt_o_ad1_1)) ne_e_o ne_t_o) (by decide) (by decide) rfl rfl (by decide) (by decide) rfl pd_28Ljava2flang2fCharSequence3b29V rfl rfl rfl (Nat.le_of_ble_eq_true rfl) rfl ?_
      rintro h15 v15 ⟨rfl, K15, Fc15_0, Fc15_1⟩
      have X16 : Ext h0 h15 := OwnW.ext_keep X2 K15 (allS z_o all0)
      have sz17 : n0 ≤ h15.size := Nat.le_trans sz3 K15.1
      show GoB0 l Z n0 OwnW.One1 h15 16 47 319 #[.val (.int p0), .val (.int p1), .val (.long p2), .second, .val (.int p3), .val (.int k), .val (.ref e), .val (.int b), .val (.int n), .val (.int c0), .val (.int c1), .val (.int c2), .val (.int c3), .val (.int c4), .val (.int c5), .val (.int c6), .val (.int c7), .val .null, .val (.ref o), .unset, .unset, .unset, .unset, .unset] []
      exact OwnW.Go.more (by decide) (by decide) (partz7 l Z a0 hw p0 p1 p2 p3 k e b n c0 c1 c2 c3 c4 c5 c6 c7 o Value.null cs sv h0 h15 n0 sz17 X16 g_o z_o Fc15_0 Fc15_1 S_CS S_SF hcs hsv hk hb (own_B6 hv hc306))
    ·
      by_cases hlt : (hd + b) < (8 : Int32)
      ·
        have F18 := (E_o.keep K1)
        have F19 := (F_al.keep K1 nin0)
        have F20 := (F_enc.keep K1 nin0)
        have F21 := (F_P.keep K1 nin0)
        have F22 := (F_hd.keep K1 nin0)
        have F23 := (F_by.keep K1 nin0)
        have F24 := (F_cnt.keep K1 nin0)
        have F25 := (F_b.keep K1 nin0)
        have F26 := (E_e.keep K1)
        have F27 := (F_t.keep K1 nin0)
        have F28 := (T_t.keep K1 nin0)
        refine OwnW.callV (a0 := a0) (pc' := 319) (W := 0) (k' := 16) (n' := 47) (argsL := [(.ref ad1_0)]) (rest := []) at_316 (hw _ (List.mem_of_getElem? (i := 48) rfl)) (hw _ (List.mem_of_getElem? (i := 49) rfl)) (hw _ (List.mem_of_getElem? (i := 51) rfl)) (hw _ (List.mem_of_getElem? (i := 50) rfl)) (hw _ (List.mem_of_getElem? (i := 11) rfl)) (hw _ (List.mem_of_getElem? (i := 52) rfl)) (by decide) F18 (rm8sn l Z a0 hw o ad1_0 cs ad1_1 kc1_0 (nar .byte (c6.toInt8.toInt32)) sv c6 P hd cnt e b k t h1 n0 sz3 g_o F18 F19 F20 F21 F22 F23 F24 Fc1_0 Fc1_2 Fc1_1 Fc1_3 (S_CS.ext X2) (S_SF.ext X2) F25 F26 F27 F28 hcs hsv (own_ch (own_c6 hb)) (own_c6 hb).1 hv hlt (Ne.symm (Nat.ne_of_lt lt_o_ad1_0)) (Ne.symm (Nat.ne_of_lt lt_o_ad1_1)) ne_e_o ne_t_o) (by decide) (by decide) rfl rfl (by decide) (by decide) rfl pd_28Ljava2flang2fCharSequence3b29V rfl rfl rfl (Nat.le_of_ble_eq_true rfl) rfl ?_
        rintro h29 v29 ⟨rfl, K29, Fc29_0, Fc29_1, Fc29_2, Fc29_3, Fc29_4, Fc29_5, Fc29_6⟩
        have X30 : Ext h0 h29 := OwnW.ext_keep X2 K29 (allS z_o all0)
        have sz31 : n0 ≤ h29.size := Nat.le_trans sz3 K29.1
        show GoB0 l Z n0 OwnW.One1 h29 16 47 319 #[.val (.int p0), .val (.int p1), .val (.long p2), .second, .val (.int p3), .val (.int k), .val (.ref e), .val (.int b), .val (.int n), .val (.int c0), .val (.int c1), .val (.int c2), .val (.int c3), .val (.int c4), .val (.int c5), .val (.int c6), .val (.int c7), .val .null, .val (.ref o), .unset, .unset, .unset, .unset, .unset] []
        have F32 := (F25.keep K29 (ninS ne_e_o nin0))
        have F33 := (F26.keep K29)
        have F34 := (F27.keep K29 (ninS ne_e_o nin0))
        have F35 := (F28.keep K29 (ninS ne_t_o nin0))
        exact OwnW.Go.more (by decide) (by decide) (partn7 l Z a0 hw p0 p1 p2 p3 k e b n c0 c1 c2 c3 c4 c5 c6 c7 o (((P <<< (b &&& 31)) ||| (f18 k c6))) ((hd + b)) cnt t cs sv h0 h29 n0 sz31 X30 g_o z_o Fc29_0 Fc29_1 Fc29_2 Fc29_3 Fc29_4 Fc29_5 Fc29_6 F32 F33 F34 F35 S_CS S_SF ne_e_o ne_t_o hcs hsv hk hb (own_Is6 hk hI hv hlt hc306))
      ·
        have F36 := (E_o.keep K1)
        have F37 := (F_al.keep K1 nin0)
        have F38 := (F_enc.keep K1 nin0)
        have F39 := (F_P.keep K1 nin0)
        have F40 := (F_hd.keep K1 nin0)
        have F41 := (F_by.keep K1 nin0)
        have F42 := (F_cnt.keep K1 nin0)
        have F43 := (F_b.keep K1 nin0)
        have F44 := (E_e.keep K1)
        have F45 := (F_t.keep K1 nin0)
        have F46 := (T_t.keep K1 nin0)
        refine OwnW.callV (a0 := a0) (pc' := 319) (W := 0) (k' := 16) (n' := 47) (argsL := [(.ref ad1_0)]) (rest := []) at_316 (hw _ (List.mem_of_getElem? (i := 48) rfl)) (hw _ (List.mem_of_getElem? (i := 49) rfl)) (hw _ (List.mem_of_getElem? (i := 51) rfl)) (hw _ (List.mem_of_getElem? (i := 50) rfl)) (hw _ (List.mem_of_getElem? (i := 11) rfl)) (hw _ (List.mem_of_getElem? (i := 52) rfl)) (by decide) F36 (rm8nn l Z a0 hw o ad1_0 cs ad1_1 kc1_0 (nar .byte (c6.toInt8.toInt32)) sv c6 P hd cnt e b k t h1 n0 sz3 g_o F36 F37 F38 F39 F40 F41 F42 Fc1_0 Fc1_2 Fc1_1 Fc1_3 (S_CS.ext X2) (S_SF.ext X2) F43 F44 F45 F46 hcs hsv (own_ch (own_c6 hb)) (own_c6 hb).1 hv hlt (Ne.symm (Nat.ne_of_lt lt_o_ad1_0)) (Ne.symm (Nat.ne_of_lt lt_o_ad1_1)) ne_e_o ne_t_o) (by decide) (by decide) rfl rfl (by decide) (by decide) rfl pd_28Ljava2flang2fCharSequence3b29V rfl rfl rfl (Nat.le_of_ble_eq_true rfl) rfl ?_
        rintro h47 v47 ⟨rfl, K47, Fc47_0, Fc47_1, Fc47_2, Fc47_3, Fc47_4, Fc47_5, Fc47_6⟩
        have X48 : Ext h0 h47 := OwnW.ext_keep X2 K47 (allS z_o all0)
        have sz49 : n0 ≤ h47.size := Nat.le_trans sz3 K47.1
        show GoB0 l Z n0 OwnW.One1 h47 16 47 319 #[.val (.int p0), .val (.int p1), .val (.long p2), .second, .val (.int p3), .val (.int k), .val (.ref e), .val (.int b), .val (.int n), .val (.int c0), .val (.int c1), .val (.int c2), .val (.int c3), .val (.int c4), .val (.int c5), .val (.int c6), .val (.int c7), .val .null, .val (.ref o), .unset, .unset, .unset, .unset, .unset] []
        have F50 := (F43.keep K47 (ninS ne_e_o nin0))
        have F51 := (F44.keep K47)
        have F52 := (F45.keep K47 (ninS ne_e_o nin0))
        have F53 := (F46.keep K47 (ninS ne_t_o nin0))
        exact OwnW.Go.more (by decide) (by decide) (partn7 l Z a0 hw p0 p1 p2 p3 k e b n c0 c1 c2 c3 c4 c5 c6 c7 o ((((P <<< (b &&& 31)) ||| (f18 k c6)) &&& (((1 : Int32) <<< (((hd + b) - (8 : Int32)) &&& 31)) - (1 : Int32)))) (((hd + b) - (8 : Int32))) cnt t cs sv h0 h47 n0 sz49 X48 g_o z_o Fc47_0 Fc47_1 Fc47_2 Fc47_3 Fc47_4 Fc47_5 Fc47_6 F50 F51 F52 F53 S_CS S_SF ne_e_o ne_t_o hcs hsv hk hb (own_Il6 hk hI hv hlt hc306))
  ·
    refine OwnW.icmpY (pc' := 319) at_306 (flt hc306).2.2.2 (by decide) (by decide) ?_
    refine OwnW.iload (pc' := 321) at_319 rfl rfl ?_
    refine OwnW.bipush (pc' := 323) (v := (7 : Int32)) at_321 rfl rfl ?_
    refine OwnW.icmpY (pc' := 336) at_323 (flt (own_nlt hc306 (by decide))).2.2.2 (by decide) (by decide) ?_
    exact OwnW.Go.more (by decide) (by decide) (tailG l Z a0 hw p0 p1 p2 p3 k e b n c0 c1 c2 c3 c4 c5 c6 c7 o Value.null P hd cs sv h0 hc n0 Z0 XB E_o F_al F_enc F_P F_hd F_b S_CS S_SF hk (own_Iend hI hc306))
set_option maxRecDepth 65536 in
set_option maxHeartbeats 400000000 in
theorem parta6 (l : Launch) (Z : State) (a0 : Array Value) (hw : ∀ d ∈ tables_1, d.before a0 Z = true) (p0 : Int32) (p1 : Int32) (p2 : Int64) (p3 : Int32) (k : Int32) (e : Addr) (b : Int32) (n : Int32) (c0 : Int32) (c1 : Int32) (c2 : Int32) (c3 : Int32) (c4 : Int32) (c5 : Int32) (c6 : Int32) (c7 : Int32) (o : Addr) (ya : Addr) (P : Int32) (hd : Int32) (cnt : Int32) (t : Addr) (cs : Int32) (sv : Value) (h0 hc : Heap) (n0 : Nat) (Z0 : n0 ≤ hc.size) (XB : Ext h0 hc) (g_o : n0 ≤ o) (z_o : h0.size ≤ o) (g_ya : n0 ≤ ya) (z_ya : h0.size ≤ ya) (E_o : Exa Z hc o "com/example/plumbline/plumbline/BaseEncoding$Reading") (F_al : Fld Z hc o "com/example/plumbline/plumbline/BaseEncoding$Reading" "inAlphabet" "Z" (.int (1 : Int32))) (F_enc : Fld Z hc o "com/example/plumbline/plumbline/BaseEncoding$Reading" "encoding" "Lcom/example/plumbline/plumbline/BaseEncoding;" (.ref e)) (F_P : Fld Z hc o "com/example/plumbline/plumbline/BaseEncoding$Reading" "pending" "I" (.int P)) (F_hd : Fld Z hc o "com/example/plumbline/plumbline/BaseEncoding$Reading" "held" "I" (.int hd)) (F_by : Fld Z hc o "com/example/plumbline/plumbline/BaseEncoding$Reading" "bytes" "[B" (.ref ya)) (F_cnt : Fld Z hc o "com/example/plumbline/plumbline/BaseEncoding$Reading" "count" "I" (.int cnt)) (F_b : Fld Z hc e "com/example/plumbline/plumbline/BaseEncoding" "bits" "I" (.int b)) (E_e : Exa Z hc e "com/example/plumbline/plumbline/BaseEncoding") (F_t : Fld Z hc e "com/example/plumbline/plumbline/BaseEncoding" "values" "[I" (.ref t)) (T_t : Tab Z hc t k) (Y_by : Byt Z hc ya) (S_CS : Sta Z h0 "java/lang/String" "COMPACT_STRINGS" "Z" (.int cs)) (S_SF : Sta Z h0 "jdk/internal/util/Preconditions" "SIOOBE_FORMATTER" "Ljava/util/function/BiFunction;" sv) (ne_e_o : e ≠ o) (ne_t_o : t ≠ o) (ne_ya_o : ya ≠ o) (ne_e_ya : e ≠ ya) (ne_t_ya : t ≠ ya) (hcs : ¬ cs = (0 : Int32)) (hsv : sv.isRef = true) (hk : own_K k b) (hb : own_C c0 c1 c2 c3 c4 c5 c6 c7) (hI : own_I 6 k b n hd P c0 c1 c2 c3 c4 c5 c6 c7) (hY : own_Y 6 b cnt) :
    GoB0 l Z n0 OwnW.One1 hc 14 42 302 #[.val (.int p0), .val (.int p1), .val (.long p2), .second, .val (.int p3), .val (.int k), .val (.ref e), .val (.int b), .val (.int n), .val (.int c0), .val (.int c1), .val (.int c2), .val (.int c3), .val (.int c4), .val (.int c5), .val (.int c6), .val (.int c7), .val (.ref ya), .val (.ref o), .unset, .unset, .unset, .unset, .unset] [] := by
  refine OwnW.iload (pc' := 304) at_302 rfl rfl ?_
  refine OwnW.bipush (pc' := 306) (v := (6 : Int32)) at_304 rfl rfl ?_
  by_cases hc306 : (6 : Int32) < n
  ·
    refine OwnW.icmpN (pc' := 309) at_306 (tlt hc306).2.2.2 rfl ?_
    refine OwnW.aload (pc' := 311) at_309 rfl (rfl) rfl ?_
    refine OwnW.iload (pc' := 313) at_311 rfl rfl ?_
    refine OwnW.callS (a0 := a0) (pc' := 316) (W := 1) (k' := 16) (n' := 47) (argsL := [(.int c6)]) (rest := [(.ref o)]) at_313 (hw _ (List.mem_of_getElem? (i := 24) rfl)) (hw _ (List.mem_of_getElem? (i := 25) rfl)) (hw _ (List.mem_of_getElem? (i := 26) rfl)) (hw _ (List.mem_of_getElem? (i := 27) rfl)) (by decide) (rm4 l Z a0 hw c6 cs hc n0 Z0 (S_CS.ext XB) hcs (own_c6 hb).2) (by decide) (by decide) rfl rfl (by decide) (by decide) rfl pd_28C29Ljava2flang2fString3b rfl rfl rfl (Nat.le_of_ble_eq_true rfl) rfl ?_
    rintro h1 v1 ⟨ad1_0, ad1_1, kc1_0, rfl, K1, gl1_0, gl1_1, nn1_0_1, Fc1_0, Fc1_1, Fc1_2, Fc1_3⟩
    have lt_o_ad1_0 : @LT.lt Nat _ o ad1_0 := Nat.lt_of_lt_of_le (E_o).lt gl1_0
    have lt_e_ad1_0 : @LT.lt Nat _ e ad1_0 := Nat.lt_of_lt_of_le (E_e).lt gl1_0
    have lt_t_ad1_0 : @LT.lt Nat _ t ad1_0 := Nat.lt_of_lt_of_le (T_t).lt gl1_0
    have lt_ya_ad1_0 : @LT.lt Nat _ ya ad1_0 := Nat.lt_of_lt_of_le (Y_by).lt gl1_0
    have ge_ad1_0 : n0 ≤ ad1_0 := Nat.le_trans Z0 gl1_0
    have lt_o_ad1_1 : @LT.lt Nat _ o ad1_1 := Nat.lt_of_lt_of_le (E_o).lt gl1_1
    have lt_e_ad1_1 : @LT.lt Nat _ e ad1_1 := Nat.lt_of_lt_of_le (E_e).lt gl1_1
    have lt_t_ad1_1 : @LT.lt Nat _ t ad1_1 := Nat.lt_of_lt_of_le (T_t).lt gl1_1
    have lt_ya_ad1_1 : @LT.lt Nat _ ya ad1_1 := Nat.lt_of_lt_of_le (Y_by).lt gl1_1
    have ge_ad1_1 : n0 ≤ ad1_1 := Nat.le_trans Z0 gl1_1
    have X2 : Ext h0 h1 := OwnW.ext_keep XB K1 all0
    have sz3 : n0 ≤ h1.size := Nat.le_trans Z0 K1.1
    show GoB0 l Z n0 OwnW.One1 h1 16 47 316 #[.val (.int p0), .val (.int p1), .val (.long p2), .second, .val (.int p3), .val (.int k), .val (.ref e), .val (.int b), .val (.int n), .val (.int c0), .val (.int c1), .val (.int c2), .val (.int c3), .val (.int c4), .val (.int c5), .val (.int c6), .val (.int c7), .val (.ref ya), .val (.ref o), .unset, .unset, .unset, .unset, .unset] [(.ref ad1_0), (.ref o)]
    by_cases hv : (f18 k c6) < (0 : Int32)
    ·
      have F4 := (E_o.keep K1)
      have F5 := (F_al.keep K1 nin0)
      have F6 := (F_enc.keep K1 nin0)
      have F7 := (F_P.keep K1 nin0)
      have F8 := (F_hd.keep K1 nin0)
      have F9 := (F_by.keep K1 nin0)
      have F10 := (F_cnt.keep K1 nin0)
      have F11 := (F_b.keep K1 nin0)
      have F12 := (E_e.keep K1)
      have F13 := (F_t.keep K1 nin0)
      have F14 := (T_t.keep K1 nin0)
      refine OwnW.callV (a0 := a0) (pc' := 319) (W := 0) (k' := 16) (n' := 47) (argsL := [(.ref ad1_0)]) (rest := []) at_316 (hw _ (List.mem_of_getElem? (i := 48) rfl)) (hw _ (List.mem_of_getElem? (i := 49) rfl)) (hw _ (List.mem_of_getElem? (i := 51) rfl)) (hw _ (List.mem_of_getElem? (i := 50) rfl)) (hw _ (List.mem_of_getElem? (i := 11) rfl)) (hw _ (List.mem_of_getElem? (i := 52) rfl)) (by decide) F4 (rm8xa l Z a0 hw o ad1_0 cs ad1_1 kc1_0 (nar .byte (c6.toInt8.toInt32)) sv c6 P hd cnt e b k t ya h1 n0 sz3 g_o F4 F5 F6 F7 F8 F9 F10 Fc1_0 Fc1_2 Fc1_1 Fc1_3 (S_CS.ext X2) (S_SF.ext X2) F11 F12 F13 F14 hcs hsv (own_ch (own_c6 hb)) (own_c6 hb).1 hv (Ne.symm (Nat.ne_of_lt lt_o_ad1_0)) (Ne.symm (Nat.ne_of_lt lt_o_ad1_1)) ne_e_o ne_t_o ne_ya_o (Ne.symm (Nat.ne_of_lt lt_ya_ad1_0)) (Ne.symm (Nat.ne_of_lt lt_ya_ad1_1)) ne_e_ya ne_t_ya) (by decide) (by decide) rfl rfl (by decide) (by decide) rfl pd_28Ljava2flang2fCharSequence3b29V rfl rfl rfl (Nat.le_of_ble_eq_true rfl) rfl ?_
      rintro h15 v15 ⟨rfl, K15, Fc15_0, Fc15_1⟩
      have X16 : Ext h0 h15 := OwnW.ext_keep X2 K15 (allS z_o all0)
      have sz17 : n0 ≤ h15.size := Nat.le_trans sz3 K15.1
      show GoB0 l Z n0 OwnW.One1 h15 16 47 319 #[.val (.int p0), .val (.int p1), .val (.long p2), .second, .val (.int p3), .val (.int k), .val (.ref e), .val (.int b), .val (.int n), .val (.int c0), .val (.int c1), .val (.int c2), .val (.int c3), .val (.int c4), .val (.int c5), .val (.int c6), .val (.int c7), .val (.ref ya), .val (.ref o), .unset, .unset, .unset, .unset, .unset] []
      exact OwnW.Go.more (by decide) (by decide) (partz7 l Z a0 hw p0 p1 p2 p3 k e b n c0 c1 c2 c3 c4 c5 c6 c7 o ((Value.ref ya)) cs sv h0 h15 n0 sz17 X16 g_o z_o Fc15_0 Fc15_1 S_CS S_SF hcs hsv hk hb (own_B6 hv hc306))
    ·
      by_cases hlt : (hd + b) < (8 : Int32)
      ·
        have F18 := (E_o.keep K1)
        have F19 := (F_al.keep K1 nin0)
        have F20 := (F_enc.keep K1 nin0)
        have F21 := (F_P.keep K1 nin0)
        have F22 := (F_hd.keep K1 nin0)
        have F23 := (F_by.keep K1 nin0)
        have F24 := (F_cnt.keep K1 nin0)
        have F25 := (F_b.keep K1 nin0)
        have F26 := (E_e.keep K1)
        have F27 := (F_t.keep K1 nin0)
        have F28 := (T_t.keep K1 nin0)
        refine OwnW.callV (a0 := a0) (pc' := 319) (W := 0) (k' := 16) (n' := 47) (argsL := [(.ref ad1_0)]) (rest := []) at_316 (hw _ (List.mem_of_getElem? (i := 48) rfl)) (hw _ (List.mem_of_getElem? (i := 49) rfl)) (hw _ (List.mem_of_getElem? (i := 51) rfl)) (hw _ (List.mem_of_getElem? (i := 50) rfl)) (hw _ (List.mem_of_getElem? (i := 11) rfl)) (hw _ (List.mem_of_getElem? (i := 52) rfl)) (by decide) F18 (rm8sa l Z a0 hw o ad1_0 cs ad1_1 kc1_0 (nar .byte (c6.toInt8.toInt32)) sv c6 P hd cnt e b k t ya h1 n0 sz3 g_o F18 F19 F20 F21 F22 F23 F24 Fc1_0 Fc1_2 Fc1_1 Fc1_3 (S_CS.ext X2) (S_SF.ext X2) F25 F26 F27 F28 hcs hsv (own_ch (own_c6 hb)) (own_c6 hb).1 hv hlt (Ne.symm (Nat.ne_of_lt lt_o_ad1_0)) (Ne.symm (Nat.ne_of_lt lt_o_ad1_1)) ne_e_o ne_t_o ne_ya_o (Ne.symm (Nat.ne_of_lt lt_ya_ad1_0)) (Ne.symm (Nat.ne_of_lt lt_ya_ad1_1)) ne_e_ya ne_t_ya) (by decide) (by decide) rfl rfl (by decide) (by decide) rfl pd_28Ljava2flang2fCharSequence3b29V rfl rfl rfl (Nat.le_of_ble_eq_true rfl) rfl ?_
        rintro h29 v29 ⟨rfl, K29, Fc29_0, Fc29_1, Fc29_2, Fc29_3, Fc29_4, Fc29_5, Fc29_6⟩
        have X30 : Ext h0 h29 := OwnW.ext_keep X2 K29 (allS z_o all0)
        have sz31 : n0 ≤ h29.size := Nat.le_trans sz3 K29.1
        show GoB0 l Z n0 OwnW.One1 h29 16 47 319 #[.val (.int p0), .val (.int p1), .val (.long p2), .second, .val (.int p3), .val (.int k), .val (.ref e), .val (.int b), .val (.int n), .val (.int c0), .val (.int c1), .val (.int c2), .val (.int c3), .val (.int c4), .val (.int c5), .val (.int c6), .val (.int c7), .val (.ref ya), .val (.ref o), .unset, .unset, .unset, .unset, .unset] []
        have F32 := (F25.keep K29 (ninS ne_e_o nin0))
        have F33 := (F26.keep K29)
        have F34 := (F27.keep K29 (ninS ne_e_o nin0))
        have F35 := (F28.keep K29 (ninS ne_t_o nin0))
        have F36 := ((Y_by.keep K1 nin0).keep K29 (ninS ne_ya_o nin0))
        exact OwnW.Go.more (by decide) (by decide) (parta7 l Z a0 hw p0 p1 p2 p3 k e b n c0 c1 c2 c3 c4 c5 c6 c7 o ya (((P <<< (b &&& 31)) ||| (f18 k c6))) ((hd + b)) cnt t cs sv h0 h29 n0 sz31 X30 g_o z_o g_ya z_ya Fc29_0 Fc29_1 Fc29_2 Fc29_3 Fc29_4 Fc29_5 Fc29_6 F32 F33 F34 F35 F36 S_CS S_SF ne_e_o ne_t_o ne_ya_o ne_e_ya ne_t_ya hcs hsv hk hb (own_Is6 hk hI hv hlt hc306) (own_Ys (i := 6) hk hI hY hlt))
      ·
        have F37 := (E_o.keep K1)
        have F38 := (F_al.keep K1 nin0)
        have F39 := (F_enc.keep K1 nin0)
        have F40 := (F_P.keep K1 nin0)
        have F41 := (F_hd.keep K1 nin0)
        have F42 := (F_by.keep K1 nin0)
        have F43 := (F_cnt.keep K1 nin0)
        have F44 := (F_b.keep K1 nin0)
        have F45 := (E_e.keep K1)
        have F46 := (F_t.keep K1 nin0)
        have F47 := (T_t.keep K1 nin0)
        have F48 := (Y_by.keep K1 nin0)
        refine OwnW.callV (a0 := a0) (pc' := 319) (W := 0) (k' := 16) (n' := 47) (argsL := [(.ref ad1_0)]) (rest := []) at_316 (hw _ (List.mem_of_getElem? (i := 48) rfl)) (hw _ (List.mem_of_getElem? (i := 49) rfl)) (hw _ (List.mem_of_getElem? (i := 51) rfl)) (hw _ (List.mem_of_getElem? (i := 50) rfl)) (hw _ (List.mem_of_getElem? (i := 11) rfl)) (hw _ (List.mem_of_getElem? (i := 52) rfl)) (by decide) F37 (rm8aa l Z a0 hw o ad1_0 cs ad1_1 kc1_0 (nar .byte (c6.toInt8.toInt32)) sv c6 P hd cnt e b k t ya h1 n0 sz3 g_o g_ya F37 F38 F39 F40 F41 F42 F43 Fc1_0 Fc1_2 Fc1_1 Fc1_3 (S_CS.ext X2) (S_SF.ext X2) F44 F45 F46 F47 F48 hcs hsv (own_ch (own_c6 hb)) (own_c6 hb).1 hv hlt (own_cnt hk hY) (Ne.symm (Nat.ne_of_lt lt_o_ad1_0)) (Ne.symm (Nat.ne_of_lt lt_o_ad1_1)) ne_e_o ne_t_o ne_ya_o (Ne.symm (Nat.ne_of_lt lt_ya_ad1_0)) (Ne.symm (Nat.ne_of_lt lt_ya_ad1_1)) ne_e_ya ne_t_ya) (by decide) (by decide) rfl rfl (by decide) (by decide) rfl pd_28Ljava2flang2fCharSequence3b29V rfl rfl rfl (Nat.le_of_ble_eq_true rfl) rfl ?_
        rintro h49 v49 ⟨rfl, K49, Fc49_0, Fc49_1, Fc49_2, Fc49_3, Fc49_4, Fc49_5, Fc49_6, Fc49_7⟩
        have X50 : Ext h0 h49 := OwnW.ext_keep X2 K49 (allS z_o (allS z_ya all0))
        have sz51 : n0 ≤ h49.size := Nat.le_trans sz3 K49.1
        show GoB0 l Z n0 OwnW.One1 h49 16 47 319 #[.val (.int p0), .val (.int p1), .val (.long p2), .second, .val (.int p3), .val (.int k), .val (.ref e), .val (.int b), .val (.int n), .val (.int c0), .val (.int c1), .val (.int c2), .val (.int c3), .val (.int c4), .val (.int c5), .val (.int c6), .val (.int c7), .val (.ref ya), .val (.ref o), .unset, .unset, .unset, .unset, .unset] []
        have F52 := (F44.keep K49 (ninS ne_e_o (ninS ne_e_ya nin0)))
        have F53 := (F45.keep K49)
        have F54 := (F46.keep K49 (ninS ne_e_o (ninS ne_e_ya nin0)))
        have F55 := (F47.keep K49 (ninS ne_t_o (ninS ne_t_ya nin0)))
        exact OwnW.Go.more (by decide) (by decide) (parta7 l Z a0 hw p0 p1 p2 p3 k e b n c0 c1 c2 c3 c4 c5 c6 c7 o ya ((((P <<< (b &&& 31)) ||| (f18 k c6)) &&& (((1 : Int32) <<< (((hd + b) - (8 : Int32)) &&& 31)) - (1 : Int32)))) (((hd + b) - (8 : Int32))) ((cnt + (1 : Int32))) t cs sv h0 h49 n0 sz51 X50 g_o z_o g_ya z_ya Fc49_0 Fc49_1 Fc49_2 Fc49_3 Fc49_4 Fc49_5 Fc49_6 F52 F53 F54 F55 Fc49_7 S_CS S_SF ne_e_o ne_t_o ne_ya_o ne_e_ya ne_t_ya hcs hsv hk hb (own_Il6 hk hI hv hlt hc306) (own_Yl (i := 6) hk hI hY hlt))
  ·
    refine OwnW.icmpY (pc' := 319) at_306 (flt hc306).2.2.2 (by decide) (by decide) ?_
    refine OwnW.iload (pc' := 321) at_319 rfl rfl ?_
    refine OwnW.bipush (pc' := 323) (v := (7 : Int32)) at_321 rfl rfl ?_
    refine OwnW.icmpY (pc' := 336) at_323 (flt (own_nlt hc306 (by decide))).2.2.2 (by decide) (by decide) ?_
    exact OwnW.Go.more (by decide) (by decide) (tailG l Z a0 hw p0 p1 p2 p3 k e b n c0 c1 c2 c3 c4 c5 c6 c7 o ((Value.ref ya)) P hd cs sv h0 hc n0 Z0 XB E_o F_al F_enc F_P F_hd F_b S_CS S_SF hk (own_Iend hI hc306))
set_option maxRecDepth 65536 in
set_option maxHeartbeats 400000000 in
theorem partz5 (l : Launch) (Z : State) (a0 : Array Value) (hw : ∀ d ∈ tables_1, d.before a0 Z = true) (p0 : Int32) (p1 : Int32) (p2 : Int64) (p3 : Int32) (k : Int32) (e : Addr) (b : Int32) (n : Int32) (c0 : Int32) (c1 : Int32) (c2 : Int32) (c3 : Int32) (c4 : Int32) (c5 : Int32) (c6 : Int32) (c7 : Int32) (o : Addr) (yv : Value) (cs : Int32) (sv : Value) (h0 hc : Heap) (n0 : Nat) (Z0 : n0 ≤ hc.size) (XB : Ext h0 hc) (g_o : n0 ≤ o) (z_o : h0.size ≤ o) (E_o : Exa Z hc o "com/example/plumbline/plumbline/BaseEncoding$Reading") (F_al : Fld Z hc o "com/example/plumbline/plumbline/BaseEncoding$Reading" "inAlphabet" "Z" (.int (0 : Int32))) (S_CS : Sta Z h0 "java/lang/String" "COMPACT_STRINGS" "Z" (.int cs)) (S_SF : Sta Z h0 "jdk/internal/util/Preconditions" "SIOOBE_FORMATTER" "Ljava/util/function/BiFunction;" sv) (hcs : ¬ cs = (0 : Int32)) (hsv : sv.isRef = true) (hk : own_K k b) (hb : own_C c0 c1 c2 c3 c4 c5 c6 c7) (hB : own_B k n c0 c1 c2 c3 c4 c5 c6 c7) :
    GoB0 l Z n0 OwnW.One1 hc 12 37 286 #[.val (.int p0), .val (.int p1), .val (.long p2), .second, .val (.int p3), .val (.int k), .val (.ref e), .val (.int b), .val (.int n), .val (.int c0), .val (.int c1), .val (.int c2), .val (.int c3), .val (.int c4), .val (.int c5), .val (.int c6), .val (.int c7), .val yv, .val (.ref o), .unset, .unset, .unset, .unset, .unset] [] := by
  refine OwnW.iload (pc' := 288) at_286 rfl rfl ?_
  refine OwnW.iconst (pc' := 289) (v := (5 : Int32)) at_288 rfl rfl ?_
  by_cases hc289 : (5 : Int32) < n
  ·
    refine OwnW.icmpN (pc' := 292) at_289 (tlt hc289).2.2.2 rfl ?_
    refine OwnW.aload (pc' := 294) at_292 rfl (rfl) rfl ?_
    refine OwnW.iload (pc' := 296) at_294 rfl rfl ?_
    refine OwnW.callS (a0 := a0) (pc' := 299) (W := 1) (k' := 14) (n' := 42) (argsL := [(.int c5)]) (rest := [(.ref o)]) at_296 (hw _ (List.mem_of_getElem? (i := 24) rfl)) (hw _ (List.mem_of_getElem? (i := 25) rfl)) (hw _ (List.mem_of_getElem? (i := 26) rfl)) (hw _ (List.mem_of_getElem? (i := 27) rfl)) (by decide) (rm4 l Z a0 hw c5 cs hc n0 Z0 (S_CS.ext XB) hcs (own_c5 hb).2) (by decide) (by decide) rfl rfl (by decide) (by decide) rfl pd_28C29Ljava2flang2fString3b rfl rfl rfl (Nat.le_of_ble_eq_true rfl) rfl ?_
    rintro h1 v1 ⟨ad1_0, ad1_1, kc1_0, rfl, K1, gl1_0, gl1_1, nn1_0_1, Fc1_0, Fc1_1, Fc1_2, Fc1_3⟩
    have lt_o_ad1_0 : @LT.lt Nat _ o ad1_0 := Nat.lt_of_lt_of_le (E_o).lt gl1_0
    have ge_ad1_0 : n0 ≤ ad1_0 := Nat.le_trans Z0 gl1_0
    have lt_o_ad1_1 : @LT.lt Nat _ o ad1_1 := Nat.lt_of_lt_of_le (E_o).lt gl1_1
    have ge_ad1_1 : n0 ≤ ad1_1 := Nat.le_trans Z0 gl1_1
    have X2 : Ext h0 h1 := OwnW.ext_keep XB K1 all0
    have sz3 : n0 ≤ h1.size := Nat.le_trans Z0 K1.1
    show GoB0 l Z n0 OwnW.One1 h1 14 42 299 #[.val (.int p0), .val (.int p1), .val (.long p2), .second, .val (.int p3), .val (.int k), .val (.ref e), .val (.int b), .val (.int n), .val (.int c0), .val (.int c1), .val (.int c2), .val (.int c3), .val (.int c4), .val (.int c5), .val (.int c6), .val (.int c7), .val yv, .val (.ref o), .unset, .unset, .unset, .unset, .unset] [(.ref ad1_0), (.ref o)]
    have F4 := (E_o.keep K1)
    have F5 := (F_al.keep K1 nin0)
    refine OwnW.callV (a0 := a0) (pc' := 302) (W := 0) (k' := 14) (n' := 42) (argsL := [(.ref ad1_0)]) (rest := []) at_299 (hw _ (List.mem_of_getElem? (i := 48) rfl)) (hw _ (List.mem_of_getElem? (i := 49) rfl)) (hw _ (List.mem_of_getElem? (i := 51) rfl)) (hw _ (List.mem_of_getElem? (i := 50) rfl)) (hw _ (List.mem_of_getElem? (i := 11) rfl)) (hw _ (List.mem_of_getElem? (i := 52) rfl)) (by decide) F4 (rm8z l Z a0 hw o ad1_0 cs ad1_1 kc1_0 (nar .byte (c5.toInt8.toInt32)) sv h1 n0 sz3 g_o F4 F5 Fc1_0 Fc1_2 Fc1_1 Fc1_3 (S_CS.ext X2) (S_SF.ext X2) hcs hsv) (by decide) (by decide) rfl rfl (by decide) (by decide) rfl pd_28Ljava2flang2fCharSequence3b29V rfl rfl rfl (Nat.le_of_ble_eq_true rfl) rfl ?_
    rintro h6 v6 ⟨rfl, K6, Fc6_0, Fc6_1⟩
    have X7 : Ext h0 h6 := OwnW.ext_keep X2 K6 (allS z_o all0)
    have sz8 : n0 ≤ h6.size := Nat.le_trans sz3 K6.1
    show GoB0 l Z n0 OwnW.One1 h6 14 42 302 #[.val (.int p0), .val (.int p1), .val (.long p2), .second, .val (.int p3), .val (.int k), .val (.ref e), .val (.int b), .val (.int n), .val (.int c0), .val (.int c1), .val (.int c2), .val (.int c3), .val (.int c4), .val (.int c5), .val (.int c6), .val (.int c7), .val yv, .val (.ref o), .unset, .unset, .unset, .unset, .unset] []
    exact OwnW.Go.more (by decide) (by decide) (partz6 l Z a0 hw p0 p1 p2 p3 k e b n c0 c1 c2 c3 c4 c5 c6 c7 o yv cs sv h0 h6 n0 sz8 X7 g_o z_o Fc6_0 Fc6_1 S_CS S_SF hcs hsv hk hb hB)
  ·
    refine OwnW.icmpY (pc' := 302) at_289 (flt hc289).2.2.2 (by decide) (by decide) ?_
    refine OwnW.iload (pc' := 304) at_302 rfl rfl ?_
    refine OwnW.bipush (pc' := 306) (v := (6 : Int32)) at_304 rfl rfl ?_
    refine OwnW.icmpY (pc' := 319) at_306 (flt (own_nlt hc289 (by decide))).2.2.2 (by decide) (by decide) ?_
    refine OwnW.iload (pc' := 321) at_319 rfl rfl ?_
    refine OwnW.bipush (pc' := 323) (v := (7 : Int32)) at_321 rfl rfl ?_
    refine OwnW.icmpY (pc' := 336) at_323 (flt (own_nlt hc289 (by decide))).2.2.2 (by decide) (by decide) ?_
    exact OwnW.Go.more (by decide) (by decide) (tailZ l Z a0 hw p0 p1 p2 p3 k e b n c0 c1 c2 c3 c4 c5 c6 c7 o yv cs sv h0 hc n0 Z0 XB E_o F_al S_CS S_SF hk hB)
set_option maxRecDepth 65536 in
set_option maxHeartbeats 400000000 in
theorem partn5 (l : Launch) (Z : State) (a0 : Array Value) (hw : ∀ d ∈ tables_1, d.before a0 Z = true) (p0 : Int32) (p1 : Int32) (p2 : Int64) (p3 : Int32) (k : Int32) (e : Addr) (b : Int32) (n : Int32) (c0 : Int32) (c1 : Int32) (c2 : Int32) (c3 : Int32) (c4 : Int32) (c5 : Int32) (c6 : Int32) (c7 : Int32) (o : Addr) (P : Int32) (hd : Int32) (cnt : Int32) (t : Addr) (cs : Int32) (sv : Value) (h0 hc : Heap) (n0 : Nat) (Z0 : n0 ≤ hc.size) (XB : Ext h0 hc) (g_o : n0 ≤ o) (z_o : h0.size ≤ o) (E_o : Exa Z hc o "com/example/plumbline/plumbline/BaseEncoding$Reading") (F_al : Fld Z hc o "com/example/plumbline/plumbline/BaseEncoding$Reading" "inAlphabet" "Z" (.int (1 : Int32))) (F_enc : Fld Z hc o "com/example/plumbline/plumbline/BaseEncoding$Reading" "encoding" "Lcom/example/plumbline/plumbline/BaseEncoding;" (.ref e)) (F_P : Fld Z hc o "com/example/plumbline/plumbline/BaseEncoding$Reading" "pending" "I" (.int P)) (F_hd : Fld Z hc o "com/example/plumbline/plumbline/BaseEncoding$Reading" "held" "I" (.int hd)) (F_by : Fld Z hc o "com/example/plumbline/plumbline/BaseEncoding$Reading" "bytes" "[B" .null) (F_cnt : Fld Z hc o "com/example/plumbline/plumbline/BaseEncoding$Reading" "count" "I" (.int cnt)) (F_b : Fld Z hc e "com/example/plumbline/plumbline/BaseEncoding" "bits" "I" (.int b)) (E_e : Exa Z hc e "com/example/plumbline/plumbline/BaseEncoding") (F_t : Fld Z hc e "com/example/plumbline/plumbline/BaseEncoding" "values" "[I" (.ref t)) (T_t : Tab Z hc t k) (S_CS : Sta Z h0 "java/lang/String" "COMPACT_STRINGS" "Z" (.int cs)) (S_SF : Sta Z h0 "jdk/internal/util/Preconditions" "SIOOBE_FORMATTER" "Ljava/util/function/BiFunction;" sv) (ne_e_o : e ≠ o) (ne_t_o : t ≠ o) (hcs : ¬ cs = (0 : Int32)) (hsv : sv.isRef = true) (hk : own_K k b) (hb : own_C c0 c1 c2 c3 c4 c5 c6 c7) (hI : own_I 5 k b n hd P c0 c1 c2 c3 c4 c5 c6 c7) :
    GoB0 l Z n0 OwnW.One1 hc 12 37 286 #[.val (.int p0), .val (.int p1), .val (.long p2), .second, .val (.int p3), .val (.int k), .val (.ref e), .val (.int b), .val (.int n), .val (.int c0), .val (.int c1), .val (.int c2), .val (.int c3), .val (.int c4), .val (.int c5), .val (.int c6), .val (.int c7), .val .null, .val (.ref o), .unset, .unset, .unset, .unset, .unset] [] := by
  refine OwnW.iload (pc' := 288) at_286 rfl rfl ?_
  refine OwnW.iconst (pc' := 289) (v := (5 : Int32)) at_288 rfl rfl ?_
  by_cases hc289 : (5 : Int32) < n
  ·
    refine OwnW.icmpN (pc' := 292) at_289 (tlt hc289).2.2.2 rfl ?_
    refine OwnW.aload (pc' := 294) at_292 rfl (rfl) rfl ?_
    refine OwnW.iload (pc' := 296) at_294 rfl rfl ?_
    refine OwnW.callS (a0 := a0) (pc' := 299) (W := 1) (k' := 14) (n' := 42) (argsL := [(.int c5)]) (rest := [(.ref o)]) at_296 (hw _ (List.mem_of_getElem? (i := 24) rfl)) (hw _ (List.mem_of_getElem? (i := 25) rfl)) (hw _ (List.mem_of_getElem? (i := 26) rfl)) (hw _ (List.mem_of_getElem? (i := 27) rfl)) (by decide) (rm4 l Z a0 hw c5 cs hc n0 Z0 (S_CS.ext XB) hcs (own_c5 hb).2) (by decide) (by decide) rfl rfl (by decide) (by decide) rfl pd_28C29Ljava2flang2fString3b rfl rfl rfl (Nat.le_of_ble_eq_true rfl) rfl ?_
    rintro h1 v1 ⟨ad1_0, ad1_1, kc1_0, rfl, K1, gl1_0, gl1_1, nn1_0_1, Fc1_0, Fc1_1, Fc1_2, Fc1_3⟩
    have lt_o_ad1_0 : @LT.lt Nat _ o ad1_0 := Nat.lt_of_lt_of_le (E_o).lt gl1_0
    have lt_e_ad1_0 : @LT.lt Nat _ e ad1_0 := Nat.lt_of_lt_of_le (E_e).lt gl1_0
    have lt_t_ad1_0 : @LT.lt Nat _ t ad1_0 := Nat.lt_of_lt_of_le (T_t).lt gl1_0
    have ge_ad1_0 : n0 ≤ ad1_0 := Nat.le_trans Z0 gl1_0
    have lt_o_ad1_1 : @LT.lt Nat _ o ad1_1 := Nat.lt_of_lt_of_le (E_o).lt gl1_1
    have lt_e_ad1_1 : @LT.lt Nat _ e ad1_1 := Nat.lt_of_lt_of_le (E_e).lt gl1_1
    have lt_t_ad1_1 : @LT.lt Nat _ t ad1_1 := Nat.lt_of_lt_of_le (T_t).lt gl1_1
    have ge_ad1_1 : n0 ≤ ad1_1 := Nat.le_trans Z0 gl1_1
    have X2 : Ext h0 h1 := OwnW.ext_keep XB K1 all0
    have sz3 : n0 ≤ h1.size := Nat.le_trans Z0 K1.1
    show GoB0 l Z n0 OwnW.One1 h1 14 42 299 #[.val (.int p0), .val (.int p1), .val (.long p2), .second, .val (.int p3), .val (.int k), .val (.ref e), .val (.int b), .val (.int n), .val (.int c0), .val (.int c1), .val (.int c2), .val (.int c3), .val (.int c4), .val (.int c5), .val (.int c6), .val (.int c7), .val .null, .val (.ref o), .unset, .unset, .unset, .unset, .unset] [(.ref ad1_0), (.ref o)]
    by_cases hv : (f18 k c5) < (0 : Int32)
    ·
      have F4 := (E_o.keep K1)
      have F5 := (F_al.keep K1 nin0)
      have F6 := (F_enc.keep K1 nin0)
      have F7 := (F_P.keep K1 nin0)
      have F8 := (F_hd.keep K1 nin0)
      have F9 := (F_by.keep K1 nin0)
      have F10 := (F_cnt.keep K1 nin0)
      have F11 := (F_b.keep K1 nin0)
      have F12 := (E_e.keep K1)
      have F13 := (F_t.keep K1 nin0)
      have F14 := (T_t.keep K1 nin0)
      refine OwnW.callV (a0 := a0) (pc' := 302) (W := 0) (k' := 14) (n' := 42) (argsL := [(.ref ad1_0)]) (rest := []) at_299 (hw _ (List.mem_of_getElem? (i := 48) rfl)) (hw _ (List.mem_of_getElem? (i := 49) rfl)) (hw _ (List.mem_of_getElem? (i := 51) rfl)) (hw _ (List.mem_of_getElem? (i := 50) rfl)) (hw _ (List.mem_of_getElem? (i := 11) rfl)) (hw _ (List.mem_of_getElem? (i := 52) rfl)) (by decide) F4 (rm8xn l Z a0 hw o ad1_0 cs ad1_1 kc1_0 (nar .byte (c5.toInt8.toInt32)) sv c5 P hd cnt e b k t h1 n0 sz3 g_o F4 F5 F6 F7 F8 F9 F10 Fc1_0 Fc1_2 Fc1_1 Fc1_3 (S_CS.ext X2) (S_SF.ext X2) F11 F12 F13 F14 hcs hsv (own_ch (own_c5 hb)) (own_c5 hb).1 hv (Ne.symm (Nat.ne_of_lt lt_o_ad1_0)) (Ne.symm (Nat.ne_of_lt lt_o_ad1_1)) ne_e_o ne_t_o) (by decide) (by decide) rfl rfl (by decide) (by decide) rfl pd_28Ljava2flang2fCharSequence3b29V rfl rfl rfl (Nat.le_of_ble_eq_true rfl) rfl ?_
      rintro h15 v15 ⟨rfl, K15, Fc15_0, Fc15_1⟩
      have X16 : Ext h0 h15 := OwnW.ext_keep X2 K15 (allS z_o all0)
      have sz17 : n0 ≤ h15.size := Nat.le_trans sz3 K15.1
      show GoB0 l Z n0 OwnW.One1 h15 14 42 302 #[.val (.int p0), .val (.int p1), .val (.long p2), .second, .val (.int p3), .val (.int k), .val (.ref e), .val (.int b), .val (.int n), .val (.int c0), .val (.int c1), .val (.int c2), .val (.int c3), .val (.int c4), .val (.int c5), .val (.int c6), .val (.int c7), .val .null, .val (.ref o), .unset, .unset, .unset, .unset, .unset] []
      exact OwnW.Go.more (by decide) (by decide) (partz6 l Z a0 hw p0 p1 p2 p3 k e b n c0 c1 c2 c3 c4 c5 c6 c7 o Value.null cs sv h0 h15 n0 sz17 X16 g_o z_o Fc15_0 Fc15_1 S_CS S_SF hcs hsv hk hb (own_B5 hv hc289))
    ·
      by_cases hlt : (hd + b) < (8 : Int32)
      ·
        have F18 := (E_o.keep K1)
        have F19 := (F_al.keep K1 nin0)
        have F20 := (F_enc.keep K1 nin0)
        have F21 := (F_P.keep K1 nin0)
        have F22 := (F_hd.keep K1 nin0)
        have F23 := (F_by.keep K1 nin0)
        have F24 := (F_cnt.keep K1 nin0)
        have F25 := (F_b.keep K1 nin0)
        have F26 := (E_e.keep K1)
        have F27 := (F_t.keep K1 nin0)
        have F28 := (T_t.keep K1 nin0)
        refine OwnW.callV (a0 := a0) (pc' := 302) (W := 0) (k' := 14) (n' := 42) (argsL := [(.ref ad1_0)]) (rest := []) at_299 (hw _ (List.mem_of_getElem? (i := 48) rfl)) (hw _ (List.mem_of_getElem? (i := 49) rfl)) (hw _ (List.mem_of_getElem? (i := 51) rfl)) (hw _ (List.mem_of_getElem? (i := 50) rfl)) (hw _ (List.mem_of_getElem? (i := 11) rfl)) (hw _ (List.mem_of_getElem? (i := 52) rfl)) (by decide) F18 (rm8sn l Z a0 hw o ad1_0 cs ad1_1 kc1_0 (nar .byte (c5.toInt8.toInt32)) sv c5 P hd cnt e b k t h1 n0 sz3 g_o F18 F19 F20 F21 F22 F23 F24 Fc1_0 Fc1_2 Fc1_1 Fc1_3 (S_CS.ext X2) (S_SF.ext X2) F25 F26 F27 F28 hcs hsv (own_ch (own_c5 hb)) (own_c5 hb).1 hv hlt (Ne.symm (Nat.ne_of_lt lt_o_ad1_0)) (Ne.symm (Nat.ne_of_lt lt_o_ad1_1)) ne_e_o ne_t_o) (by decide) (by decide) rfl rfl (by decide) (by decide) rfl pd_28Ljava2flang2fCharSequence3b29V rfl rfl rfl (Nat.le_of_ble_eq_true rfl) rfl ?_
        rintro h29 v29 ⟨rfl, K29, Fc29_0, Fc29_1, Fc29_2, Fc29_3, Fc29_4, Fc29_5, Fc29_6⟩
        have X30 : Ext h0 h29 := OwnW.ext_keep X2 K29 (allS z_o all0)
        have sz31 : n0 ≤ h29.size := Nat.le_trans sz3 K29.1
        show GoB0 l Z n0 OwnW.One1 h29 14 42 302 #[.val (.int p0), .val (.int p1), .val (.long p2), .second, .val (.int p3), .val (.int k), .val (.ref e), .val (.int b), .val (.int n), .val (.int c0), .val (.int c1), .val (.int c2), .val (.int c3), .val (.int c4), .val (.int c5), .val (.int c6), .val (.int c7), .val .null, .val (.ref o), .unset, .unset, .unset, .unset, .unset] []
        have F32 := (F25.keep K29 (ninS ne_e_o nin0))
        have F33 := (F26.keep K29)
        have F34 := (F27.keep K29 (ninS ne_e_o nin0))
        have F35 := (F28.keep K29 (ninS ne_t_o nin0))
        exact OwnW.Go.more (by decide) (by decide) (partn6 l Z a0 hw p0 p1 p2 p3 k e b n c0 c1 c2 c3 c4 c5 c6 c7 o (((P <<< (b &&& 31)) ||| (f18 k c5))) ((hd + b)) cnt t cs sv h0 h29 n0 sz31 X30 g_o z_o Fc29_0 Fc29_1 Fc29_2 Fc29_3 Fc29_4 Fc29_5 Fc29_6 F32 F33 F34 F35 S_CS S_SF ne_e_o ne_t_o hcs hsv hk hb (own_Is5 hk hI hv hlt hc289))
      ·
        have F36 := (E_o.keep K1)
        have F37 := (F_al.keep K1 nin0)
        have F38 := (F_enc.keep K1 nin0)
        have F39 := (F_P.keep K1 nin0)
        have F40 := (F_hd.keep K1 nin0)
        have F41 := (F_by.keep K1 nin0)
        have F42 := (F_cnt.keep K1 nin0)
        have F43 := (F_b.keep K1 nin0)
        have F44 := (E_e.keep K1)
        have F45 := (F_t.keep K1 nin0)
        have F46 := (T_t.keep K1 nin0)
        refine OwnW.callV (a0 := a0) (pc' := 302) (W := 0) (k' := 14) (n' := 42) (argsL := [(.ref ad1_0)]) (rest := []) at_299 (hw _ (List.mem_of_getElem? (i := 48) rfl)) (hw _ (List.mem_of_getElem? (i := 49) rfl)) (hw _ (List.mem_of_getElem? (i := 51) rfl)) (hw _ (List.mem_of_getElem? (i := 50) rfl)) (hw _ (List.mem_of_getElem? (i := 11) rfl)) (hw _ (List.mem_of_getElem? (i := 52) rfl)) (by decide) F36 (rm8nn l Z a0 hw o ad1_0 cs ad1_1 kc1_0 (nar .byte (c5.toInt8.toInt32)) sv c5 P hd cnt e b k t h1 n0 sz3 g_o F36 F37 F38 F39 F40 F41 F42 Fc1_0 Fc1_2 Fc1_1 Fc1_3 (S_CS.ext X2) (S_SF.ext X2) F43 F44 F45 F46 hcs hsv (own_ch (own_c5 hb)) (own_c5 hb).1 hv hlt (Ne.symm (Nat.ne_of_lt lt_o_ad1_0)) (Ne.symm (Nat.ne_of_lt lt_o_ad1_1)) ne_e_o ne_t_o) (by decide) (by decide) rfl rfl (by decide) (by decide) rfl pd_28Ljava2flang2fCharSequence3b29V rfl rfl rfl (Nat.le_of_ble_eq_true rfl) rfl ?_
        rintro h47 v47 ⟨rfl, K47, Fc47_0, Fc47_1, Fc47_2, Fc47_3, Fc47_4, Fc47_5, Fc47_6⟩
        have X48 : Ext h0 h47 := OwnW.ext_keep X2 K47 (allS z_o all0)
        have sz49 : n0 ≤ h47.size := Nat.le_trans sz3 K47.1
        show GoB0 l Z n0 OwnW.One1 h47 14 42 302 #[.val (.int p0), .val (.int p1), .val (.long p2), .second, .val (.int p3), .val (.int k), .val (.ref e), .val (.int b), .val (.int n), .val (.int c0), .val (.int c1), .val (.int c2), .val (.int c3), .val (.int c4), .val (.int c5), .val (.int c6), .val (.int c7), .val .null, .val (.ref o), .unset, .unset, .unset, .unset, .unset] []
        have F50 := (F43.keep K47 (ninS ne_e_o nin0))
        have F51 := (F44.keep K47)
        have F52 := (F45.keep K47 (ninS ne_e_o nin0))
        have F53 := (F46.keep K47 (ninS ne_t_o nin0))
        exact OwnW.Go.more (by decide) (by decide) (partn6 l Z a0 hw p0 p1 p2 p3 k e b n c0 c1 c2 c3 c4 c5 c6 c7 o ((((P <<< (b &&& 31)) ||| (f18 k c5)) &&& (((1 : Int32) <<< (((hd + b) - (8 : Int32)) &&& 31)) - (1 : Int32)))) (((hd + b) - (8 : Int32))) cnt t cs sv h0 h47 n0 sz49 X48 g_o z_o Fc47_0 Fc47_1 Fc47_2 Fc47_3 Fc47_4 Fc47_5 Fc47_6 F50 F51 F52 F53 S_CS S_SF ne_e_o ne_t_o hcs hsv hk hb (own_Il5 hk hI hv hlt hc289))
  ·
    refine OwnW.icmpY (pc' := 302) at_289 (flt hc289).2.2.2 (by decide) (by decide) ?_
    refine OwnW.iload (pc' := 304) at_302 rfl rfl ?_
    refine OwnW.bipush (pc' := 306) (v := (6 : Int32)) at_304 rfl rfl ?_
    refine OwnW.icmpY (pc' := 319) at_306 (flt (own_nlt hc289 (by decide))).2.2.2 (by decide) (by decide) ?_
    refine OwnW.iload (pc' := 321) at_319 rfl rfl ?_
    refine OwnW.bipush (pc' := 323) (v := (7 : Int32)) at_321 rfl rfl ?_
    refine OwnW.icmpY (pc' := 336) at_323 (flt (own_nlt hc289 (by decide))).2.2.2 (by decide) (by decide) ?_
    exact OwnW.Go.more (by decide) (by decide) (tailG l Z a0 hw p0 p1 p2 p3 k e b n c0 c1 c2 c3 c4 c5 c6 c7 o Value.null P hd cs sv h0 hc n0 Z0 XB E_o F_al F_enc F_P F_hd F_b S_CS S_SF hk (own_Iend hI hc289))
set_option maxRecDepth 65536 in
set_option maxHeartbeats 400000000 in
theorem parta5 (l : Launch) (Z : State) (a0 : Array Value) (hw : ∀ d ∈ tables_1, d.before a0 Z = true) (p0 : Int32) (p1 : Int32) (p2 : Int64) (p3 : Int32) (k : Int32) (e : Addr) (b : Int32) (n : Int32) (c0 : Int32) (c1 : Int32) (c2 : Int32) (c3 : Int32) (c4 : Int32) (c5 : Int32) (c6 : Int32) (c7 : Int32) (o : Addr) (ya : Addr) (P : Int32) (hd : Int32) (cnt : Int32) (t : Addr) (cs : Int32) (sv : Value) (h0 hc : Heap) (n0 : Nat) (Z0 : n0 ≤ hc.size) (XB : Ext h0 hc) (g_o : n0 ≤ o) (z_o : h0.size ≤ o) (g_ya : n0 ≤ ya) (z_ya : h0.size ≤ ya) (E_o : Exa Z hc o "com/example/plumbline/plumbline/BaseEncoding$Reading") (F_al : Fld Z hc o "com/example/plumbline/plumbline/BaseEncoding$Reading" "inAlphabet" "Z" (.int (1 : Int32))) (F_enc : Fld Z hc o "com/example/plumbline/plumbline/BaseEncoding$Reading" "encoding" "Lcom/example/plumbline/plumbline/BaseEncoding;" (.ref e)) (F_P : Fld Z hc o "com/example/plumbline/plumbline/BaseEncoding$Reading" "pending" "I" (.int P)) (F_hd : Fld Z hc o "com/example/plumbline/plumbline/BaseEncoding$Reading" "held" "I" (.int hd)) (F_by : Fld Z hc o "com/example/plumbline/plumbline/BaseEncoding$Reading" "bytes" "[B" (.ref ya)) (F_cnt : Fld Z hc o "com/example/plumbline/plumbline/BaseEncoding$Reading" "count" "I" (.int cnt)) (F_b : Fld Z hc e "com/example/plumbline/plumbline/BaseEncoding" "bits" "I" (.int b)) (E_e : Exa Z hc e "com/example/plumbline/plumbline/BaseEncoding") (F_t : Fld Z hc e "com/example/plumbline/plumbline/BaseEncoding" "values" "[I" (.ref t)) (T_t : Tab Z hc t k) (Y_by : Byt Z hc ya) (S_CS : Sta Z h0 "java/lang/String" "COMPACT_STRINGS" "Z" (.int cs)) (S_SF : Sta Z h0 "jdk/internal/util/Preconditions" "SIOOBE_FORMATTER" "Ljava/util/function/BiFunction;" sv) (ne_e_o : e ≠ o) (ne_t_o : t ≠ o) (ne_ya_o : ya ≠ o) (ne_e_ya : e ≠ ya) (ne_t_ya : t ≠ ya) (hcs : ¬ cs = (0 : Int32)) (hsv : sv.isRef = true) (hk : own_K k b) (hb : own_C c0 c1 c2 c3 c4 c5 c6 c7) (hI : own_I 5 k b n hd P c0 c1 c2 c3 c4 c5 c6 c7) (hY : own_Y 5 b cnt) :
    GoB0 l Z n0 OwnW.One1 hc 12 37 286 #[.val (.int p0), .val (.int p1), .val (.long p2), .second, .val (.int p3), .val (.int k), .val (.ref e), .val (.int b), .val (.int n), .val (.int c0), .val (.int c1), .val (.int c2), .val (.int c3), .val (.int c4), .val (.int c5), .val (.int c6), .val (.int c7), .val (.ref ya), .val (.ref o), .unset, .unset, .unset, .unset, .unset] [] := by
  refine OwnW.iload (pc' := 288) at_286 rfl rfl ?_
  refine OwnW.iconst (pc' := 289) (v := (5 : Int32)) at_288 rfl rfl ?_
  by_cases hc289 : (5 : Int32) < n
  ·
    refine OwnW.icmpN (pc' := 292) at_289 (tlt hc289).2.2.2 rfl ?_
    refine OwnW.aload (pc' := 294) at_292 rfl (rfl) rfl ?_
    refine OwnW.iload (pc' := 296) at_294 rfl rfl ?_
    refine OwnW.callS (a0 := a0) (pc' := 299) (W := 1) (k' := 14) (n' := 42) (argsL := [(.int c5)]) (rest := [(.ref o)]) at_296 (hw _ (List.mem_of_getElem? (i := 24) rfl)) (hw _ (List.mem_of_getElem? (i := 25) rfl)) (hw _ (List.mem_of_getElem? (i := 26) rfl)) (hw _ (List.mem_of_getElem? (i := 27) rfl)) (by decide) (rm4 l Z a0 hw c5 cs hc n0 Z0 (S_CS.ext XB) hcs (own_c5 hb).2) (by decide) (by decide) rfl rfl (by decide) (by decide) rfl pd_28C29Ljava2flang2fString3b rfl rfl rfl (Nat.le_of_ble_eq_true rfl) rfl ?_
    rintro h1 v1 ⟨ad1_0, ad1_1, kc1_0, rfl, K1, gl1_0, gl1_1, nn1_0_1, Fc1_0, Fc1_1, Fc1_2, Fc1_3⟩
    have lt_o_ad1_0 : @LT.lt Nat _ o ad1_0 := Nat.lt_of_lt_of_le (E_o).lt gl1_0
    have lt_e_ad1_0 : @LT.lt Nat _ e ad1_0 := Nat.lt_of_lt_of_le (E_e).lt gl1_0
    have lt_t_ad1_0 : @LT.lt Nat _ t ad1_0 := Nat.lt_of_lt_of_le (T_t).lt gl1_0
    have lt_ya_ad1_0 : @LT.lt Nat _ ya ad1_0 := Nat.lt_of_lt_of_le (Y_by).lt gl1_0
    have ge_ad1_0 : n0 ≤ ad1_0 := Nat.le_trans Z0 gl1_0
    have lt_o_ad1_1 : @LT.lt Nat _ o ad1_1 := Nat.lt_of_lt_of_le (E_o).lt gl1_1
    have lt_e_ad1_1 : @LT.lt Nat _ e ad1_1 := Nat.lt_of_lt_of_le (E_e).lt gl1_1
    have lt_t_ad1_1 : @LT.lt Nat _ t ad1_1 := Nat.lt_of_lt_of_le (T_t).lt gl1_1
    have lt_ya_ad1_1 : @LT.lt Nat _ ya ad1_1 := Nat.lt_of_lt_of_le (Y_by).lt gl1_1
    have ge_ad1_1 : n0 ≤ ad1_1 := Nat.le_trans Z0 gl1_1
    have X2 : Ext h0 h1 := OwnW.ext_keep XB K1 all0
    have sz3 : n0 ≤ h1.size := Nat.le_trans Z0 K1.1
    show GoB0 l Z n0 OwnW.One1 h1 14 42 299 #[.val (.int p0), .val (.int p1), .val (.long p2), .second, .val (.int p3), .val (.int k), .val (.ref e), .val (.int b), .val (.int n), .val (.int c0), .val (.int c1), .val (.int c2), .val (.int c3), .val (.int c4), .val (.int c5), .val (.int c6), .val (.int c7), .val (.ref ya), .val (.ref o), .unset, .unset, .unset, .unset, .unset] [(.ref ad1_0), (.ref o)]
    by_cases hv : (f18 k c5) < (0 : Int32)
    ·
      have F4 := (E_o.keep K1)
      have F5 := (F_al.keep K1 nin0)
      have F6 := (F_enc.keep K1 nin0)
      have F7 := (F_P.keep K1 nin0)
      have F8 := (F_hd.keep K1 nin0)
      have F9 := (F_by.keep K1 nin0)
      have F10 := (F_cnt.keep K1 nin0)
      have F11 := (F_b.keep K1 nin0)
      have F12 := (E_e.keep K1)
      have F13 := (F_t.keep K1 nin0)
      have F14 := (T_t.keep K1 nin0)
      refine OwnW.callV (a0 := a0) (pc' := 302) (W := 0) (k' := 14) (n' := 42) (argsL := [(.ref ad1_0)]) (rest := []) at_299 (hw _ (List.mem_of_getElem? (i := 48) rfl)) (hw _ (List.mem_of_getElem? (i := 49) rfl)) (hw _ (List.mem_of_getElem? (i := 51) rfl)) (hw _ (List.mem_of_getElem? (i := 50) rfl)) (hw _ (List.mem_of_getElem? (i := 11) rfl)) (hw _ (List.mem_of_getElem? (i := 52) rfl)) (by decide) F4 (rm8xa l Z a0 hw o ad1_0 cs ad1_1 kc1_0 (nar .byte (c5.toInt8.toInt32)) sv c5 P hd cnt e b k t ya h1 n0 sz3 g_o F4 F5 F6 F7 F8 F9 F10 Fc1_0 Fc1_2 Fc1_1 Fc1_3 (S_CS.ext X2) (S_SF.ext X2) F11 F12 F13 F14 hcs hsv (own_ch (own_c5 hb)) (own_c5 hb).1 hv (Ne.symm (Nat.ne_of_lt lt_o_ad1_0)) (Ne.symm (Nat.ne_of_lt lt_o_ad1_1)) ne_e_o ne_t_o ne_ya_o (Ne.symm (Nat.ne_of_lt lt_ya_ad1_0)) (Ne.symm (Nat.ne_of_lt lt_ya_ad1_1)) ne_e_ya ne_t_ya) (by decide) (by decide) rfl rfl (by decide) (by decide) rfl pd_28Ljava2flang2fCharSequence3b29V rfl rfl rfl (Nat.le_of_ble_eq_true rfl) rfl ?_
      rintro h15 v15 ⟨rfl, K15, Fc15_0, Fc15_1⟩
      have X16 : Ext h0 h15 := OwnW.ext_keep X2 K15 (allS z_o all0)
      have sz17 : n0 ≤ h15.size := Nat.le_trans sz3 K15.1
      show GoB0 l Z n0 OwnW.One1 h15 14 42 302 #[.val (.int p0), .val (.int p1), .val (.long p2), .second, .val (.int p3), .val (.int k), .val (.ref e), .val (.int b), .val (.int n), .val (.int c0), .val (.int c1), .val (.int c2), .val (.int c3), .val (.int c4), .val (.int c5), .val (.int c6), .val (.int c7), .val (.ref ya), .val (.ref o), .unset, .unset, .unset, .unset, .unset] []
      exact OwnW.Go.more (by decide) (by decide) (partz6 l Z a0 hw p0 p1 p2 p3 k e b n c0 c1 c2 c3 c4 c5 c6 c7 o ((Value.ref ya)) cs sv h0 h15 n0 sz17 X16 g_o z_o Fc15_0 Fc15_1 S_CS S_SF hcs hsv hk hb (own_B5 hv hc289))
    ·
      by_cases hlt : (hd + b) < (8 : Int32)
      ·
        have F18 := (E_o.keep K1)
        have F19 := (F_al.keep K1 nin0)
        have F20 := (F_enc.keep K1 nin0)
        have F21 := (F_P.keep K1 nin0)
        have F22 := (F_hd.keep K1 nin0)
        have F23 := (F_by.keep K1 nin0)
        have F24 := (F_cnt.keep K1 nin0)
        have F25 := (F_b.keep K1 nin0)
        have F26 := (E_e.keep K1)
        have F27 := (F_t.keep K1 nin0)
        have F28 := (T_t.keep K1 nin0)
        refine OwnW.callV (a0 := a0) (pc' := 302) (W := 0) (k' := 14) (n' := 42) (argsL := [(.ref ad1_0)]) (rest := []) at_299 (hw _ (List.mem_of_getElem? (i := 48) rfl)) (hw _ (List.mem_of_getElem? (i := 49) rfl)) (hw _ (List.mem_of_getElem? (i := 51) rfl)) (hw _ (List.mem_of_getElem? (i := 50) rfl)) (hw _ (List.mem_of_getElem? (i := 11) rfl)) (hw _ (List.mem_of_getElem? (i := 52) rfl)) (by decide) F18 (rm8sa l Z a0 hw o ad1_0 cs ad1_1 kc1_0 (nar .byte (c5.toInt8.toInt32)) sv c5 P hd cnt e b k t ya h1 n0 sz3 g_o F18 F19 F20 F21 F22 F23 F24 Fc1_0 Fc1_2 Fc1_1 Fc1_3 (S_CS.ext X2) (S_SF.ext X2) F25 F26 F27 F28 hcs hsv (own_ch (own_c5 hb)) (own_c5 hb).1 hv hlt (Ne.symm (Nat.ne_of_lt lt_o_ad1_0)) (Ne.symm (Nat.ne_of_lt lt_o_ad1_1)) ne_e_o ne_t_o ne_ya_o (Ne.symm (Nat.ne_of_lt lt_ya_ad1_0)) (Ne.symm (Nat.ne_of_lt lt_ya_ad1_1)) ne_e_ya ne_t_ya) (by decide) (by decide) rfl rfl (by decide) (by decide) rfl pd_28Ljava2flang2fCharSequence3b29V rfl rfl rfl (Nat.le_of_ble_eq_true rfl) rfl ?_
        rintro h29 v29 ⟨rfl, K29, Fc29_0, Fc29_1, Fc29_2, Fc29_3, Fc29_4, Fc29_5, Fc29_6⟩
        have X30 : Ext h0 h29 := OwnW.ext_keep X2 K29 (allS z_o all0)
        have sz31 : n0 ≤ h29.size := Nat.le_trans sz3 K29.1
        show GoB0 l Z n0 OwnW.One1 h29 14 42 302 #[.val (.int p0), .val (.int p1), .val (.long p2), .second, .val (.int p3), .val (.int k), .val (.ref e), .val (.int b), .val (.int n), .val (.int c0), .val (.int c1), .val (.int c2), .val (.int c3), .val (.int c4), .val (.int c5), .val (.int c6), .val (.int c7), .val (.ref ya), .val (.ref o), .unset, .unset, .unset, .unset, .unset] []
        have F32 := (F25.keep K29 (ninS ne_e_o nin0))
        have F33 := (F26.keep K29)
        have F34 := (F27.keep K29 (ninS ne_e_o nin0))
        have F35 := (F28.keep K29 (ninS ne_t_o nin0))
        have F36 := ((Y_by.keep K1 nin0).keep K29 (ninS ne_ya_o nin0))
        exact OwnW.Go.more (by decide) (by decide) (parta6 l Z a0 hw p0 p1 p2 p3 k e b n c0 c1 c2 c3 c4 c5 c6 c7 o ya (((P <<< (b &&& 31)) ||| (f18 k c5))) ((hd + b)) cnt t cs sv h0 h29 n0 sz31 X30 g_o z_o g_ya z_ya Fc29_0 Fc29_1 Fc29_2 Fc29_3 Fc29_4 Fc29_5 Fc29_6 F32 F33 F34 F35 F36 S_CS S_SF ne_e_o ne_t_o ne_ya_o ne_e_ya ne_t_ya hcs hsv hk hb (own_Is5 hk hI hv hlt hc289) (own_Ys (i := 5) hk hI hY hlt))
      ·
        have F37 := (E_o.keep K1)
        have F38 := (F_al.keep K1 nin0)
        have F39 := (F_enc.keep K1 nin0)
        have F40 := (F_P.keep K1 nin0)
        have F41 := (F_hd.keep K1 nin0)
        have F42 := (F_by.keep K1 nin0)
        have F43 := (F_cnt.keep K1 nin0)
        have F44 := (F_b.keep K1 nin0)
        have F45 := (E_e.keep K1)
        have F46 := (F_t.keep K1 nin0)
        have F47 := (T_t.keep K1 nin0)
        have F48 := (Y_by.keep K1 nin0)
        refine OwnW.callV (a0 := a0) (pc' := 302) (W := 0) (k' := 14) (n' := 42) (argsL := [(.ref ad1_0)]) (rest := []) at_299 (hw _ (List.mem_of_getElem? (i := 48) rfl)) (hw _ (List.mem_of_getElem? (i := 49) rfl)) (hw _ (List.mem_of_getElem? (i := 51) rfl)) (hw _ (List.mem_of_getElem? (i := 50) rfl)) (hw _ (List.mem_of_getElem? (i := 11) rfl)) (hw _ (List.mem_of_getElem? (i := 52) rfl)) (by decide) F37 (rm8aa l Z a0 hw o ad1_0 cs ad1_1 kc1_0 (nar .byte (c5.toInt8.toInt32)) sv c5 P hd cnt e b k t ya h1 n0 sz3 g_o g_ya F37 F38 F39 F40 F41 F42 F43 Fc1_0 Fc1_2 Fc1_1 Fc1_3 (S_CS.ext X2) (S_SF.ext X2) F44 F45 F46 F47 F48 hcs hsv (own_ch (own_c5 hb)) (own_c5 hb).1 hv hlt (own_cnt hk hY) (Ne.symm (Nat.ne_of_lt lt_o_ad1_0)) (Ne.symm (Nat.ne_of_lt lt_o_ad1_1)) ne_e_o ne_t_o ne_ya_o (Ne.symm (Nat.ne_of_lt lt_ya_ad1_0)) (Ne.symm (Nat.ne_of_lt lt_ya_ad1_1)) ne_e_ya ne_t_ya) (by decide) (by decide) rfl rfl (by decide) (by decide) rfl pd_28Ljava2flang2fCharSequence3b29V rfl rfl rfl (Nat.le_of_ble_eq_true rfl) rfl ?_
        rintro h49 v49 ⟨rfl, K49, Fc49_0, Fc49_1, Fc49_2, Fc49_3, Fc49_4, Fc49_5, Fc49_6, Fc49_7⟩
        have X50 : Ext h0 h49 := OwnW.ext_keep X2 K49 (allS z_o (allS z_ya all0))
        have sz51 : n0 ≤ h49.size := Nat.le_trans sz3 K49.1
        show GoB0 l Z n0 OwnW.One1 h49 14 42 302 #[.val (.int p0), .val (.int p1), .val (.long p2), .second, .val (.int p3), .val (.int k), .val (.ref e), .val (.int b), .val (.int n), .val (.int c0), .val (.int c1), .val (.int c2), .val (.int c3), .val (.int c4), .val (.int c5), .val (.int c6), .val (.int c7), .val (.ref ya), .val (.ref o), .unset, .unset, .unset, .unset, .unset] []
        have F52 := (F44.keep K49 (ninS ne_e_o (ninS ne_e_ya nin0)))
        have F53 := (F45.keep K49)
        have F54 := (F46.keep K49 (ninS ne_e_o (ninS ne_e_ya nin0)))
        have F55 := (F47.keep K49 (ninS ne_t_o (ninS ne_t_ya nin0)))
        exact OwnW.Go.more (by decide) (by decide) (parta6 l Z a0 hw p0 p1 p2 p3 k e b n c0 c1 c2 c3 c4 c5 c6 c7 o ya ((((P <<< (b &&& 31)) ||| (f18 k c5)) &&& (((1 : Int32) <<< (((hd + b) - (8 : Int32)) &&& 31)) - (1 : Int32)))) (((hd + b) - (8 : Int32))) ((cnt + (1 : Int32))) t cs sv h0 h49 n0 sz51 X50 g_o z_o g_ya z_ya Fc49_0 Fc49_1 Fc49_2 Fc49_3 Fc49_4 Fc49_5 Fc49_6 F52 F53 F54 F55 Fc49_7 S_CS S_SF ne_e_o ne_t_o ne_ya_o ne_e_ya ne_t_ya hcs hsv hk hb (own_Il5 hk hI hv hlt hc289) (own_Yl (i := 5) hk hI hY hlt))
  ·
    refine OwnW.icmpY (pc' := 302) at_289 (flt hc289).2.2.2 (by decide) (by decide) ?_
    refine OwnW.iload (pc' := 304) at_302 rfl rfl ?_
    refine OwnW.bipush (pc' := 306) (v := (6 : Int32)) at_304 rfl rfl ?_
    refine OwnW.icmpY (pc' := 319) at_306 (flt (own_nlt hc289 (by decide))).2.2.2 (by decide) (by decide) ?_
    refine OwnW.iload (pc' := 321) at_319 rfl rfl ?_
    refine OwnW.bipush (pc' := 323) (v := (7 : Int32)) at_321 rfl rfl ?_
    refine OwnW.icmpY (pc' := 336) at_323 (flt (own_nlt hc289 (by decide))).2.2.2 (by decide) (by decide) ?_
    exact OwnW.Go.more (by decide) (by decide) (tailG l Z a0 hw p0 p1 p2 p3 k e b n c0 c1 c2 c3 c4 c5 c6 c7 o ((Value.ref ya)) P hd cs sv h0 hc n0 Z0 XB E_o F_al F_enc F_P F_hd F_b S_CS S_SF hk (own_Iend hI hc289))
set_option maxRecDepth 65536 in
set_option maxHeartbeats 400000000 in
theorem partz4 (l : Launch) (Z : State) (a0 : Array Value) (hw : ∀ d ∈ tables_1, d.before a0 Z = true) (p0 : Int32) (p1 : Int32) (p2 : Int64) (p3 : Int32) (k : Int32) (e : Addr) (b : Int32) (n : Int32) (c0 : Int32) (c1 : Int32) (c2 : Int32) (c3 : Int32) (c4 : Int32) (c5 : Int32) (c6 : Int32) (c7 : Int32) (o : Addr) (yv : Value) (cs : Int32) (sv : Value) (h0 hc : Heap) (n0 : Nat) (Z0 : n0 ≤ hc.size) (XB : Ext h0 hc) (g_o : n0 ≤ o) (z_o : h0.size ≤ o) (E_o : Exa Z hc o "com/example/plumbline/plumbline/BaseEncoding$Reading") (F_al : Fld Z hc o "com/example/plumbline/plumbline/BaseEncoding$Reading" "inAlphabet" "Z" (.int (0 : Int32))) (S_CS : Sta Z h0 "java/lang/String" "COMPACT_STRINGS" "Z" (.int cs)) (S_SF : Sta Z h0 "jdk/internal/util/Preconditions" "SIOOBE_FORMATTER" "Ljava/util/function/BiFunction;" sv) (hcs : ¬ cs = (0 : Int32)) (hsv : sv.isRef = true) (hk : own_K k b) (hb : own_C c0 c1 c2 c3 c4 c5 c6 c7) (hB : own_B k n c0 c1 c2 c3 c4 c5 c6 c7) :
    GoB0 l Z n0 OwnW.One1 hc 10 32 270 #[.val (.int p0), .val (.int p1), .val (.long p2), .second, .val (.int p3), .val (.int k), .val (.ref e), .val (.int b), .val (.int n), .val (.int c0), .val (.int c1), .val (.int c2), .val (.int c3), .val (.int c4), .val (.int c5), .val (.int c6), .val (.int c7), .val yv, .val (.ref o), .unset, .unset, .unset, .unset, .unset] [] := by
  refine OwnW.iload (pc' := 272) at_270 rfl rfl ?_
  refine OwnW.iconst (pc' := 273) (v := (4 : Int32)) at_272 rfl rfl ?_
  by_cases hc273 : (4 : Int32) < n
  ·
    refine OwnW.icmpN (pc' := 276) at_273 (tlt hc273).2.2.2 rfl ?_
    refine OwnW.aload (pc' := 278) at_276 rfl (rfl) rfl ?_
    refine OwnW.iload (pc' := 280) at_278 rfl rfl ?_
    refine OwnW.callS (a0 := a0) (pc' := 283) (W := 1) (k' := 12) (n' := 37) (argsL := [(.int c4)]) (rest := [(.ref o)]) at_280 (hw _ (List.mem_of_getElem? (i := 24) rfl)) (hw _ (List.mem_of_getElem? (i := 25) rfl)) (hw _ (List.mem_of_getElem? (i := 26) rfl)) (hw _ (List.mem_of_getElem? (i := 27) rfl)) (by decide) (rm4 l Z a0 hw c4 cs hc n0 Z0 (S_CS.ext XB) hcs (own_c4 hb).2) (by decide) (by decide) rfl rfl (by decide) (by decide) rfl pd_28C29Ljava2flang2fString3b rfl rfl rfl (Nat.le_of_ble_eq_true rfl) rfl ?_
    rintro h1 v1 ⟨ad1_0, ad1_1, kc1_0, rfl, K1, gl1_0, gl1_1, nn1_0_1, Fc1_0, Fc1_1, Fc1_2, Fc1_3⟩
    have lt_o_ad1_0 : @LT.lt Nat _ o ad1_0 := Nat.lt_of_lt_of_le (E_o).lt gl1_0
    have ge_ad1_0 : n0 ≤ ad1_0 := Nat.le_trans Z0 gl1_0
    have lt_o_ad1_1 : @LT.lt Nat _ o ad1_1 := Nat.lt_of_lt_of_le (E_o).lt gl1_1
    have ge_ad1_1 : n0 ≤ ad1_1 := Nat.le_trans Z0 gl1_1
    have X2 : Ext h0 h1 := OwnW.ext_keep XB K1 all0
    have sz3 : n0 ≤ h1.size := Nat.le_trans Z0 K1.1
    show GoB0 l Z n0 OwnW.One1 h1 12 37 283 #[.val (.int p0), .val (.int p1), .val (.long p2), .second, .val (.int p3), .val (.int k), .val (.ref e), .val (.int b), .val (.int n), .val (.int c0), .val (.int c1), .val (.int c2), .val (.int c3), .val (.int c4), .val (.int c5), .val (.int c6), .val (.int c7), .val yv, .val (.ref o), .unset, .unset, .unset, .unset, .unset] [(.ref ad1_0), (.ref o)]
    have F4 := (E_o.keep K1)
    have F5 := (F_al.keep K1 nin0)
    refine OwnW.callV (a0 := a0) (pc' := 286) (W := 0) (k' := 12) (n' := 37) (argsL := [(.ref ad1_0)]) (rest := []) at_283 (hw _ (List.mem_of_getElem? (i := 48) rfl)) (hw _ (List.mem_of_getElem? (i := 49) rfl)) (hw _ (List.mem_of_getElem? (i := 51) rfl)) (hw _ (List.mem_of_getElem? (i := 50) rfl)) (hw _ (List.mem_of_getElem? (i := 11) rfl)) (hw _ (List.mem_of_getElem? (i := 52) rfl)) (by decide) F4 (rm8z l Z a0 hw o ad1_0 cs ad1_1 kc1_0 (nar .byte (c4.toInt8.toInt32)) sv h1 n0 sz3 g_o F4 F5 Fc1_0 Fc1_2 Fc1_1 Fc1_3 (S_CS.ext X2) (S_SF.ext X2) hcs hsv) (by decide) (by decide) rfl rfl (by decide) (by decide) rfl pd_28Ljava2flang2fCharSequence3b29V rfl rfl rfl (Nat.le_of_ble_eq_true rfl) rfl ?_
    rintro h6 v6 ⟨rfl, K6, Fc6_0, Fc6_1⟩
    have X7 : Ext h0 h6 := OwnW.ext_keep X2 K6 (allS z_o all0)
    have sz8 : n0 ≤ h6.size := Nat.le_trans sz3 K6.1
    show GoB0 l Z n0 OwnW.One1 h6 12 37 286 #[.val (.int p0), .val (.int p1), .val (.long p2), .second, .val (.int p3), .val (.int k), .val (.ref e), .val (.int b), .val (.int n), .val (.int c0), .val (.int c1), .val (.int c2), .val (.int c3), .val (.int c4), .val (.int c5), .val (.int c6), .val (.int c7), .val yv, .val (.ref o), .unset, .unset, .unset, .unset, .unset] []
    exact OwnW.Go.more (by decide) (by decide) (partz5 l Z a0 hw p0 p1 p2 p3 k e b n c0 c1 c2 c3 c4 c5 c6 c7 o yv cs sv h0 h6 n0 sz8 X7 g_o z_o Fc6_0 Fc6_1 S_CS S_SF hcs hsv hk hb hB)
  ·
    refine OwnW.icmpY (pc' := 286) at_273 (flt hc273).2.2.2 (by decide) (by decide) ?_
    refine OwnW.iload (pc' := 288) at_286 rfl rfl ?_
    refine OwnW.iconst (pc' := 289) (v := (5 : Int32)) at_288 rfl rfl ?_
    refine OwnW.icmpY (pc' := 302) at_289 (flt (own_nlt hc273 (by decide))).2.2.2 (by decide) (by decide) ?_
    refine OwnW.iload (pc' := 304) at_302 rfl rfl ?_
    refine OwnW.bipush (pc' := 306) (v := (6 : Int32)) at_304 rfl rfl ?_
    refine OwnW.icmpY (pc' := 319) at_306 (flt (own_nlt hc273 (by decide))).2.2.2 (by decide) (by decide) ?_
    refine OwnW.iload (pc' := 321) at_319 rfl rfl ?_
    refine OwnW.bipush (pc' := 323) (v := (7 : Int32)) at_321 rfl rfl ?_
    refine OwnW.icmpY (pc' := 336) at_323 (flt (own_nlt hc273 (by decide))).2.2.2 (by decide) (by decide) ?_
    exact OwnW.Go.more (by decide) (by decide) (tailZ l Z a0 hw p0 p1 p2 p3 k e b n c0 c1 c2 c3 c4 c5 c6 c7 o yv cs sv h0 hc n0 Z0 XB E_o F_al S_CS S_SF hk hB)
set_option maxRecDepth 65536 in
set_option maxHeartbeats 400000000 in
theorem partn4 (l : Launch) (Z : State) (a0 : Array Value) (hw : ∀ d ∈ tables_1, d.before a0 Z = true) (p0 : Int32) (p1 : Int32) (p2 : Int64) (p3 : Int32) (k : Int32) (e : Addr) (b : Int32) (n : Int32) (c0 : Int32) (c1 : Int32) (c2 : Int32) (c3 : Int32) (c4 : Int32) (c5 : Int32) (c6 : Int32) (c7 : Int32) (o : Addr) (P : Int32) (hd : Int32) (cnt : Int32) (t : Addr) (cs : Int32) (sv : Value) (h0 hc : Heap) (n0 : Nat) (Z0 : n0 ≤ hc.size) (XB : Ext h0 hc) (g_o : n0 ≤ o) (z_o : h0.size ≤ o) (E_o : Exa Z hc o "com/example/plumbline/plumbline/BaseEncoding$Reading") (F_al : Fld Z hc o "com/example/plumbline/plumbline/BaseEncoding$Reading" "inAlphabet" "Z" (.int (1 : Int32))) (F_enc : Fld Z hc o "com/example/plumbline/plumbline/BaseEncoding$Reading" "encoding" "Lcom/example/plumbline/plumbline/BaseEncoding;" (.ref e)) (F_P : Fld Z hc o "com/example/plumbline/plumbline/BaseEncoding$Reading" "pending" "I" (.int P)) (F_hd : Fld Z hc o "com/example/plumbline/plumbline/BaseEncoding$Reading" "held" "I" (.int hd)) (F_by : Fld Z hc o "com/example/plumbline/plumbline/BaseEncoding$Reading" "bytes" "[B" .null) (F_cnt : Fld Z hc o "com/example/plumbline/plumbline/BaseEncoding$Reading" "count" "I" (.int cnt)) (F_b : Fld Z hc e "com/example/plumbline/plumbline/BaseEncoding" "bits" "I" (.int b)) (E_e : Exa Z hc e "com/example/plumbline/plumbline/BaseEncoding") (F_t : Fld Z hc e "com/example/plumbline/plumbline/BaseEncoding" "values" "[I" (.ref t)) (T_t : Tab Z hc t k) (S_CS : Sta Z h0 "java/lang/String" "COMPACT_STRINGS" "Z" (.int cs)) (S_SF : Sta Z h0 "jdk/internal/util/Preconditions" "SIOOBE_FORMATTER" "Ljava/util/function/BiFunction;" sv) (ne_e_o : e ≠ o) (ne_t_o : t ≠ o) (hcs : ¬ cs = (0 : Int32)) (hsv : sv.isRef = true) (hk : own_K k b) (hb : own_C c0 c1 c2 c3 c4 c5 c6 c7) (hI : own_I 4 k b n hd P c0 c1 c2 c3 c4 c5 c6 c7) :
    GoB0 l Z n0 OwnW.One1 hc 10 32 270 #[.val (.int p0), .val (.int p1), .val (.long p2), .second, .val (.int p3), .val (.int k), .val (.ref e), .val (.int b), .val (.int n), .val (.int c0), .val (.int c1), .val (.int c2), .val (.int c3), .val (.int c4), .val (.int c5), .val (.int c6), .val (.int c7), .val .null, .val (.ref o), .unset, .unset, .unset, .unset, .unset] [] := by
  refine OwnW.iload (pc' := 272) at_270 rfl rfl ?_
  refine OwnW.iconst (pc' := 273) (v := (4 : Int32)) at_272 rfl rfl ?_
  by_cases hc273 : (4 : Int32) < n
  ·
    refine OwnW.icmpN (pc' := 276) at_273 (tlt hc273).2.2.2 rfl ?_
    refine OwnW.aload (pc' := 278) at_276 rfl (rfl) rfl ?_
    refine OwnW.iload (pc' := 280) at_278 rfl rfl ?_
    refine OwnW.callS (a0 := a0) (pc' := 283) (W := 1) (k' := 12) (n' := 37) (argsL := [(.int c4)]) (rest := [(.ref o)]) at_280 (hw _ (List.mem_of_getElem? (i := 24) rfl)) (hw _ (List.mem_of_getElem? (i := 25) rfl)) (hw _ (List.mem_of_getElem? (i := 26) rfl)) (hw _ (List.mem_of_getElem? (i := 27) rfl)) (by decide) (rm4 l Z a0 hw c4 cs hc n0 Z0 (S_CS.ext XB) hcs (own_c4 hb).2) (by decide) (by decide) rfl rfl (by decide) (by decide) rfl pd_28C29Ljava2flang2fString3b rfl rfl rfl (Nat.le_of_ble_eq_true rfl) rfl ?_
    rintro h1 v1 ⟨ad1_0, ad1_1, kc1_0, rfl, K1, gl1_0, gl1_1, nn1_0_1, Fc1_0, Fc1_1, Fc1_2, Fc1_3⟩
    have lt_o_ad1_0 : @LT.lt Nat _ o ad1_0 := Nat.lt_of_lt_of_le (E_o).lt gl1_0
    have lt_e_ad1_0 : @LT.lt Nat _ e ad1_0 := Nat.lt_of_lt_of_le (E_e).lt gl1_0
    have lt_t_ad1_0 : @LT.lt Nat _ t ad1_0 := Nat.lt_of_lt_of_le (T_t).lt gl1_0
    have ge_ad1_0 : n0 ≤ ad1_0 := Nat.le_trans Z0 gl1_0
    have lt_o_ad1_1 : @LT.lt Nat _ o ad1_1 := Nat.lt_of_lt_of_le (E_o).lt gl1_1
    have lt_e_ad1_1 : @LT.lt Nat _ e ad1_1 := Nat.lt_of_lt_of_le (E_e).lt gl1_1
    have lt_t_ad1_1 : @LT.lt Nat _ t ad1_1 := Nat.lt_of_lt_of_le (T_t).lt gl1_1
    have ge_ad1_1 : n0 ≤ ad1_1 := Nat.le_trans Z0 gl1_1
    have X2 : Ext h0 h1 := OwnW.ext_keep XB K1 all0
    have sz3 : n0 ≤ h1.size := Nat.le_trans Z0 K1.1
    show GoB0 l Z n0 OwnW.One1 h1 12 37 283 #[.val (.int p0), .val (.int p1), .val (.long p2), .second, .val (.int p3), .val (.int k), .val (.ref e), .val (.int b), .val (.int n), .val (.int c0), .val (.int c1), .val (.int c2), .val (.int c3), .val (.int c4), .val (.int c5), .val (.int c6), .val (.int c7), .val .null, .val (.ref o), .unset, .unset, .unset, .unset, .unset] [(.ref ad1_0), (.ref o)]
    by_cases hv : (f18 k c4) < (0 : Int32)
    ·
      have F4 := (E_o.keep K1)
      have F5 := (F_al.keep K1 nin0)
      have F6 := (F_enc.keep K1 nin0)
      have F7 := (F_P.keep K1 nin0)
      have F8 := (F_hd.keep K1 nin0)
      have F9 := (F_by.keep K1 nin0)
      have F10 := (F_cnt.keep K1 nin0)
      have F11 := (F_b.keep K1 nin0)
      have F12 := (E_e.keep K1)
      have F13 := (F_t.keep K1 nin0)
      have F14 := (T_t.keep K1 nin0)
      refine OwnW.callV (a0 := a0) (pc' := 286) (W := 0) (k' := 12) (n' := 37) (argsL := [(.ref ad1_0)]) (rest := []) at_283 (hw _ (List.mem_of_getElem? (i := 48) rfl)) (hw _ (List.mem_of_getElem? (i := 49) rfl)) (hw _ (List.mem_of_getElem? (i := 51) rfl)) (hw _ (List.mem_of_getElem? (i := 50) rfl)) (hw _ (List.mem_of_getElem? (i := 11) rfl)) (hw _ (List.mem_of_getElem? (i := 52) rfl)) (by decide) F4 (rm8xn l Z a0 hw o ad1_0 cs ad1_1 kc1_0 (nar .byte (c4.toInt8.toInt32)) sv c4 P hd cnt e b k t h1 n0 sz3 g_o F4 F5 F6 F7 F8 F9 F10 Fc1_0 Fc1_2 Fc1_1 Fc1_3 (S_CS.ext X2) (S_SF.ext X2) F11 F12 F13 F14 hcs hsv (own_ch (own_c4 hb)) (own_c4 hb).1 hv (Ne.symm (Nat.ne_of_lt lt_o_ad1_0)) (Ne.symm (Nat.ne_of_lt lt_o_ad1_1)) ne_e_o ne_t_o) (by decide) (by decide) rfl rfl (by decide) (by decide) rfl pd_28Ljava2flang2fCharSequence3b29V rfl rfl rfl (Nat.le_of_ble_eq_true rfl) rfl ?_
      rintro h15 v15 ⟨rfl, K15, Fc15_0, Fc15_1⟩
      have X16 : Ext h0 h15 := OwnW.ext_keep X2 K15 (allS z_o all0)
      have sz17 : n0 ≤ h15.size := Nat.le_trans sz3 K15.1
      show GoB0 l Z n0 OwnW.One1 h15 12 37 286 #[.val (.int p0), .val (.int p1), .val (.long p2), .second, .val (.int p3), .val (.int k), .val (.ref e), .val (.int b), .val (.int n), .val (.int c0), .val (.int c1), .val (.int c2), .val (.int c3), .val (.int c4), .val (.int c5), .val (.int c6), .val (.int c7), .val .null, .val (.ref o), .unset, .unset, .unset, .unset, .unset] []
      exact OwnW.Go.more (by decide) (by decide) (partz5 l Z a0 hw p0 p1 p2 p3 k e b n c0 c1 c2 c3 c4 c5 c6 c7 o Value.null cs sv h0 h15 n0 sz17 X16 g_o z_o Fc15_0 Fc15_1 S_CS S_SF hcs hsv hk hb (own_B4 hv hc273))
    ·
      by_cases hlt : (hd + b) < (8 : Int32)
      ·
        have F18 := (E_o.keep K1)
        have F19 := (F_al.keep K1 nin0)
        have F20 := (F_enc.keep K1 nin0)
        have F21 := (F_P.keep K1 nin0)
        have F22 := (F_hd.keep K1 nin0)
        have F23 := (F_by.keep K1 nin0)
        have F24 := (F_cnt.keep K1 nin0)
        have F25 := (F_b.keep K1 nin0)
        have F26 := (E_e.keep K1)
        have F27 := (F_t.keep K1 nin0)
        have F28 := (T_t.keep K1 nin0)
        refine OwnW.callV (a0 := a0) (pc' := 286) (W := 0) (k' := 12) (n' := 37) (argsL := [(.ref ad1_0)]) (rest := []) at_283 (hw _ (List.mem_of_getElem? (i := 48) rfl)) (hw _ (List.mem_of_getElem? (i := 49) rfl)) (hw _ (List.mem_of_getElem? (i := 51) rfl)) (hw _ (List.mem_of_getElem? (i := 50) rfl)) (hw _ (List.mem_of_getElem? (i := 11) rfl)) (hw _ (List.mem_of_getElem? (i := 52) rfl)) (by decide) F18 (rm8sn l Z a0 hw o ad1_0 cs ad1_1 kc1_0 (nar .byte (c4.toInt8.toInt32)) sv c4 P hd cnt e b k t h1 n0 sz3 g_o F18 F19 F20 F21 F22 F23 F24 Fc1_0 Fc1_2 Fc1_1 Fc1_3 (S_CS.ext X2) (S_SF.ext X2) F25 F26 F27 F28 hcs hsv (own_ch (own_c4 hb)) (own_c4 hb).1 hv hlt (Ne.symm (Nat.ne_of_lt lt_o_ad1_0)) (Ne.symm (Nat.ne_of_lt lt_o_ad1_1)) ne_e_o ne_t_o) (by decide) (by decide) rfl rfl (by decide) (by decide) rfl pd_28Ljava2flang2fCharSequence3b29V rfl rfl rfl (Nat.le_of_ble_eq_true rfl) rfl ?_
        rintro h29 v29 ⟨rfl, K29, Fc29_0, Fc29_1, Fc29_2, Fc29_3, Fc29_4, Fc29_5, Fc29_6⟩
        have X30 : Ext h0 h29 := OwnW.ext_keep X2 K29 (allS z_o all0)
        have sz31 : n0 ≤ h29.size := Nat.le_trans sz3 K29.1
        show GoB0 l Z n0 OwnW.One1 h29 12 37 286 #[.val (.int p0), .val (.int p1), .val (.long p2), .second, .val (.int p3), .val (.int k), .val (.ref e), .val (.int b), .val (.int n), .val (.int c0), .val (.int c1), .val (.int c2), .val (.int c3), .val (.int c4), .val (.int c5), .val (.int c6), .val (.int c7), .val .null, .val (.ref o), .unset, .unset, .unset, .unset, .unset] []
        have F32 := (F25.keep K29 (ninS ne_e_o nin0))
        have F33 := (F26.keep K29)
        have F34 := (F27.keep K29 (ninS ne_e_o nin0))
        have F35 := (F28.keep K29 (ninS ne_t_o nin0))
        exact OwnW.Go.more (by decide) (by decide) (partn5 l Z a0 hw p0 p1 p2 p3 k e b n c0 c1 c2 c3 c4 c5 c6 c7 o (((P <<< (b &&& 31)) ||| (f18 k c4))) ((hd + b)) cnt t cs sv h0 h29 n0 sz31 X30 g_o z_o Fc29_0 Fc29_1 Fc29_2 Fc29_3 Fc29_4 Fc29_5 Fc29_6 F32 F33 F34 F35 S_CS S_SF ne_e_o ne_t_o hcs hsv hk hb (own_Is4 hk hI hv hlt hc273))
      ·
        have F36 := (E_o.keep K1)
        have F37 := (F_al.keep K1 nin0)
        have F38 := (F_enc.keep K1 nin0)
        have F39 := (F_P.keep K1 nin0)
        have F40 := (F_hd.keep K1 nin0)
        have F41 := (F_by.keep K1 nin0)
        have F42 := (F_cnt.keep K1 nin0)
        have F43 := (F_b.keep K1 nin0)
        have F44 := (E_e.keep K1)
        have F45 := (F_t.keep K1 nin0)
        have F46 := (T_t.keep K1 nin0)
        refine OwnW.callV (a0 := a0) (pc' := 286) (W := 0) (k' := 12) (n' := 37) (argsL := [(.ref ad1_0)]) (rest := []) at_283 (hw _ (List.mem_of_getElem? (i := 48) rfl)) (hw _ (List.mem_of_getElem? (i := 49) rfl)) (hw _ (List.mem_of_getElem? (i := 51) rfl)) (hw _ (List.mem_of_getElem? (i := 50) rfl)) (hw _ (List.mem_of_getElem? (i := 11) rfl)) (hw _ (List.mem_of_getElem? (i := 52) rfl)) (by decide) F36 (rm8nn l Z a0 hw o ad1_0 cs ad1_1 kc1_0 (nar .byte (c4.toInt8.toInt32)) sv c4 P hd cnt e b k t h1 n0 sz3 g_o F36 F37 F38 F39 F40 F41 F42 Fc1_0 Fc1_2 Fc1_1 Fc1_3 (S_CS.ext X2) (S_SF.ext X2) F43 F44 F45 F46 hcs hsv (own_ch (own_c4 hb)) (own_c4 hb).1 hv hlt (Ne.symm (Nat.ne_of_lt lt_o_ad1_0)) (Ne.symm (Nat.ne_of_lt lt_o_ad1_1)) ne_e_o ne_t_o) (by decide) (by decide) rfl rfl (by decide) (by decide) rfl pd_28Ljava2flang2fCharSequence3b29V rfl rfl rfl (Nat.le_of_ble_eq_true rfl) rfl ?_
        rintro h47 v47 ⟨rfl, K47, Fc47_0, Fc47_1, Fc47_2, Fc47_3, Fc47_4, Fc47_5, Fc47_6⟩
        have X48 : Ext h0 h47 := OwnW.ext_keep X2 K47 (allS z_o all0)
        have sz49 : n0 ≤ h47.size := Nat.le_trans sz3 K47.1
        show GoB0 l Z n0 OwnW.One1 h47 12 37 286 #[.val (.int p0), .val (.int p1), .val (.long p2), .second, .val (.int p3), .val (.int k), .val (.ref e), .val (.int b), .val (.int n), .val (.int c0), .val (.int c1), .val (.int c2), .val (.int c3), .val (.int c4), .val (.int c5), .val (.int c6), .val (.int c7), .val .null, .val (.ref o), .unset, .unset, .unset, .unset, .unset] []
        have F50 := (F43.keep K47 (ninS ne_e_o nin0))
        have F51 := (F44.keep K47)
        have F52 := (F45.keep K47 (ninS ne_e_o nin0))
        have F53 := (F46.keep K47 (ninS ne_t_o nin0))
        exact OwnW.Go.more (by decide) (by decide) (partn5 l Z a0 hw p0 p1 p2 p3 k e b n c0 c1 c2 c3 c4 c5 c6 c7 o ((((P <<< (b &&& 31)) ||| (f18 k c4)) &&& (((1 : Int32) <<< (((hd + b) - (8 : Int32)) &&& 31)) - (1 : Int32)))) (((hd + b) - (8 : Int32))) cnt t cs sv h0 h47 n0 sz49 X48 g_o z_o Fc47_0 Fc47_1 Fc47_2 Fc47_3 Fc47_4 Fc47_5 Fc47_6 F50 F51 F52 F53 S_CS S_SF ne_e_o ne_t_o hcs hsv hk hb (own_Il4 hk hI hv hlt hc273))
  ·
    refine OwnW.icmpY (pc' := 286) at_273 (flt hc273).2.2.2 (by decide) (by decide) ?_
    refine OwnW.iload (pc' := 288) at_286 rfl rfl ?_
    refine OwnW.iconst (pc' := 289) (v := (5 : Int32)) at_288 rfl rfl ?_
    refine OwnW.icmpY (pc' := 302) at_289 (flt (own_nlt hc273 (by decide))).2.2.2 (by decide) (by decide) ?_
    refine OwnW.iload (pc' := 304) at_302 rfl rfl ?_
    refine OwnW.bipush (pc' := 306) (v := (6 : Int32)) at_304 rfl rfl ?_
    refine OwnW.icmpY (pc' := 319) at_306 (flt (own_nlt hc273 (by decide))).2.2.2 (by decide) (by decide) ?_
    refine OwnW.iload (pc' := 321) at_319 rfl rfl ?_
    refine OwnW.bipush (pc' := 323) (v := (7 : Int32)) at_321 rfl rfl ?_
    refine OwnW.icmpY (pc' := 336) at_323 (flt (own_nlt hc273 (by decide))).2.2.2 (by decide) (by decide) ?_
    exact OwnW.Go.more (by decide) (by decide) (tailG l Z a0 hw p0 p1 p2 p3 k e b n c0 c1 c2 c3 c4 c5 c6 c7 o Value.null P hd cs sv h0 hc n0 Z0 XB E_o F_al F_enc F_P F_hd F_b S_CS S_SF hk (own_Iend hI hc273))
set_option maxRecDepth 65536 in
set_option maxHeartbeats 400000000 in
theorem parta4 (l : Launch) (Z : State) (a0 : Array Value) (hw : ∀ d ∈ tables_1, d.before a0 Z = true) (p0 : Int32) (p1 : Int32) (p2 : Int64) (p3 : Int32) (k : Int32) (e : Addr) (b : Int32) (n : Int32) (c0 : Int32) (c1 : Int32) (c2 : Int32) (c3 : Int32) (c4 : Int32) (c5 : Int32) (c6 : Int32) (c7 : Int32) (o : Addr) (ya : Addr) (P : Int32) (hd : Int32) (cnt : Int32) (t : Addr) (cs : Int32) (sv : Value) (h0 hc : Heap) (n0 : Nat) (Z0 : n0 ≤ hc.size) (XB : Ext h0 hc) (g_o : n0 ≤ o) (z_o : h0.size ≤ o) (g_ya : n0 ≤ ya) (z_ya : h0.size ≤ ya) (E_o : Exa Z hc o "com/example/plumbline/plumbline/BaseEncoding$Reading") (F_al : Fld Z hc o "com/example/plumbline/plumbline/BaseEncoding$Reading" "inAlphabet" "Z" (.int (1 : Int32))) (F_enc : Fld Z hc o "com/example/plumbline/plumbline/BaseEncoding$Reading" "encoding" "Lcom/example/plumbline/plumbline/BaseEncoding;" (.ref e)) (F_P : Fld Z hc o "com/example/plumbline/plumbline/BaseEncoding$Reading" "pending" "I" (.int P)) (F_hd : Fld Z hc o "com/example/plumbline/plumbline/BaseEncoding$Reading" "held" "I" (.int hd)) (F_by : Fld Z hc o "com/example/plumbline/plumbline/BaseEncoding$Reading" "bytes" "[B" (.ref ya)) (F_cnt : Fld Z hc o "com/example/plumbline/plumbline/BaseEncoding$Reading" "count" "I" (.int cnt)) (F_b : Fld Z hc e "com/example/plumbline/plumbline/BaseEncoding" "bits" "I" (.int b)) (E_e : Exa Z hc e "com/example/plumbline/plumbline/BaseEncoding") (F_t : Fld Z hc e "com/example/plumbline/plumbline/BaseEncoding" "values" "[I" (.ref t)) (T_t : Tab Z hc t k) (Y_by : Byt Z hc ya) (S_CS : Sta Z h0 "java/lang/String" "COMPACT_STRINGS" "Z" (.int cs)) (S_SF : Sta Z h0 "jdk/internal/util/Preconditions" "SIOOBE_FORMATTER" "Ljava/util/function/BiFunction;" sv) (ne_e_o : e ≠ o) (ne_t_o : t ≠ o) (ne_ya_o : ya ≠ o) (ne_e_ya : e ≠ ya) (ne_t_ya : t ≠ ya) (hcs : ¬ cs = (0 : Int32)) (hsv : sv.isRef = true) (hk : own_K k b) (hb : own_C c0 c1 c2 c3 c4 c5 c6 c7) (hI : own_I 4 k b n hd P c0 c1 c2 c3 c4 c5 c6 c7) (hY : own_Y 4 b cnt) :
    GoB0 l Z n0 OwnW.One1 hc 10 32 270 #[.val (.int p0), .val (.int p1), .val (.long p2), .second, .val (.int p3), .val (.int k), .val (.ref e), .val (.int b), .val (.int n), .val (.int c0), .val (.int c1), .val (.int c2), .val (.int c3), .val (.int c4), .val (.int c5), .val (.int c6), .val (.int c7), .val (.ref ya), .val (.ref o), .unset, .unset, .unset, .unset, .unset] [] := by
  refine OwnW.iload (pc' := 272) at_270 rfl rfl ?_
  refine OwnW.iconst (pc' := 273) (v := (4 : Int32)) at_272 rfl rfl ?_
  by_cases hc273 : (4 : Int32) < n
  ·
    refine OwnW.icmpN (pc' := 276) at_273 (tlt hc273).2.2.2 rfl ?_
    refine OwnW.aload (pc' := 278) at_276 rfl (rfl) rfl ?_
    refine OwnW.iload (pc' := 280) at_278 rfl rfl ?_
    refine OwnW.callS (a0 := a0) (pc' := 283) (W := 1) (k' := 12) (n' := 37) (argsL := [(.int c4)]) (rest := [(.ref o)]) at_280 (hw _ (List.mem_of_getElem? (i := 24) rfl)) (hw _ (List.mem_of_getElem? (i := 25) rfl)) (hw _ (List.mem_of_getElem? (i := 26) rfl)) (hw _ (List.mem_of_getElem? (i := 27) rfl)) (by decide) (rm4 l Z a0 hw c4 cs hc n0 Z0 (S_CS.ext XB) hcs (own_c4 hb).2) (by decide) (by decide) rfl rfl (by decide) (by decide) rfl pd_28C29Ljava2flang2fString3b rfl rfl rfl (Nat.le_of_ble_eq_true rfl) rfl ?_
    rintro h1 v1 ⟨ad1_0, ad1_1, kc1_0, rfl, K1, gl1_0, gl1_1, nn1_0_1, Fc1_0, Fc1_1, Fc1_2, Fc1_3⟩
    have lt_o_ad1_0 : @LT.lt Nat _ o ad1_0 := Nat.lt_of_lt_of_le (E_o).lt gl1_0
    have lt_e_ad1_0 : @LT.lt Nat _ e ad1_0 := Nat.lt_of_lt_of_le (E_e).lt gl1_0
    have lt_t_ad1_0 : @LT.lt Nat _ t ad1_0 := Nat.lt_of_lt_of_le (T_t).lt gl1_0
    have lt_ya_ad1_0 : @LT.lt Nat _ ya ad1_0 := Nat.lt_of_lt_of_le (Y_by).lt gl1_0
    have ge_ad1_0 : n0 ≤ ad1_0 := Nat.le_trans Z0 gl1_0
    have lt_o_ad1_1 : @LT.lt Nat _ o ad1_1 := Nat.lt_of_lt_of_le (E_o).lt gl1_1
    have lt_e_ad1_1 : @LT.lt Nat _ e ad1_1 := Nat.lt_of_lt_of_le (E_e).lt gl1_1
    have lt_t_ad1_1 : @LT.lt Nat _ t ad1_1 := Nat.lt_of_lt_of_le (T_t).lt gl1_1
    have lt_ya_ad1_1 : @LT.lt Nat _ ya ad1_1 := Nat.lt_of_lt_of_le (Y_by).lt gl1_1
    have ge_ad1_1 : n0 ≤ ad1_1 := Nat.le_trans Z0 gl1_1
    have X2 : Ext h0 h1 := OwnW.ext_keep XB K1 all0
    have sz3 : n0 ≤ h1.size := Nat.le_trans Z0 K1.1
    show GoB0 l Z n0 OwnW.One1 h1 12 37 283 #[.val (.int p0), .val (.int p1), .val (.long p2), .second, .val (.int p3), .val (.int k), .val (.ref e), .val (.int b), .val (.int n), .val (.int c0), .val (.int c1), .val (.int c2), .val (.int c3), .val (.int c4), .val (.int c5), .val (.int c6), .val (.int c7), .val (.ref ya), .val (.ref o), .unset, .unset, .unset, .unset, .unset] [(.ref ad1_0), (.ref o)]
    by_cases hv : (f18 k c4) < (0 : Int32)
    ·
      have F4 := (E_o.keep K1)
      have F5 := (F_al.keep K1 nin0)
      have F6 := (F_enc.keep K1 nin0)
      have F7 := (F_P.keep K1 nin0)
      have F8 := (F_hd.keep K1 nin0)
      have F9 := (F_by.keep K1 nin0)
      have F10 := (F_cnt.keep K1 nin0)
      have F11 := (F_b.keep K1 nin0)
      have F12 := (E_e.keep K1)
      have F13 := (F_t.keep K1 nin0)
      have F14 := (T_t.keep K1 nin0)
      refine OwnW.callV (a0 := a0) (pc' := 286) (W := 0) (k' := 12) (n' := 37) (argsL := [(.ref ad1_0)]) (rest := []) at_283 (hw _ (List.mem_of_getElem? (i := 48) rfl)) (hw _ (List.mem_of_getElem? (i := 49) rfl)) (hw _ (List.mem_of_getElem? (i := 51) rfl)) (hw _ (List.mem_of_getElem? (i := 50) rfl)) (hw _ (List.mem_of_getElem? (i := 11) rfl)) (hw _ (List.mem_of_getElem? (i := 52) rfl)) (by decide) F4 (rm8xa l Z a0 hw o ad1_0 cs ad1_1 kc1_0 (nar .byte (c4.toInt8.toInt32)) sv c4 P hd cnt e b k t ya h1 n0 sz3 g_o F4 F5 F6 F7 F8 F9 F10 Fc1_0 Fc1_2 Fc1_1 Fc1_3 (S_CS.ext X2) (S_SF.ext X2) F11 F12 F13 F14 hcs hsv (own_ch (own_c4 hb)) (own_c4 hb).1 hv (Ne.symm (Nat.ne_of_lt lt_o_ad1_0)) (Ne.symm (Nat.ne_of_lt lt_o_ad1_1)) ne_e_o ne_t_o ne_ya_o (Ne.symm (Nat.ne_of_lt lt_ya_ad1_0)) (Ne.symm (Nat.ne_of_lt lt_ya_ad1_1)) ne_e_ya ne_t_ya) (by decide) (by decide) rfl rfl (by decide) (by decide) rfl pd_28Ljava2flang2fCharSequence3b29V rfl rfl rfl (Nat.le_of_ble_eq_true rfl) rfl ?_
      rintro h15 v15 ⟨rfl, K15, Fc15_0, Fc15_1⟩
      have X16 : Ext h0 h15 := OwnW.ext_keep X2 K15 (allS z_o all0)
      have sz17 : n0 ≤ h15.size := Nat.le_trans sz3 K15.1
      show GoB0 l Z n0 OwnW.One1 h15 12 37 286 #[.val (.int p0), .val (.int p1), .val (.long p2), .second, .val (.int p3), .val (.int k), .val (.ref e), .val (.int b), .val (.int n), .val (.int c0), .val (.int c1), .val (.int c2), .val (.int c3), .val (.int c4), .val (.int c5), .val (.int c6), .val (.int c7), .val (.ref ya), .val (.ref o), .unset, .unset, .unset, .unset, .unset] []
      exact OwnW.Go.more (by decide) (by decide) (partz5 l Z a0 hw p0 p1 p2 p3 k e b n c0 c1 c2 c3 c4 c5 c6 c7 o ((Value.ref ya)) cs sv h0 h15 n0 sz17 X16 g_o z_o Fc15_0 Fc15_1 S_CS S_SF hcs hsv hk hb (own_B4 hv hc273))
    ·
      by_cases hlt : (hd + b) < (8 : Int32)
      ·
        have F18 := (E_o.keep K1)
        have F19 := (F_al.keep K1 nin0)
        have F20 := (F_enc.keep K1 nin0)
        have F21 := (F_P.keep K1 nin0)
        have F22 := (F_hd.keep K1 nin0)
        have F23 := (F_by.keep K1 nin0)
        have F24 := (F_cnt.keep K1 nin0)
        have F25 := (F_b.keep K1 nin0)
        have F26 := (E_e.keep K1)
        have F27 := (F_t.keep K1 nin0)
        have F28 := (T_t.keep K1 nin0)
        refine OwnW.callV (a0 := a0) (pc' := 286) (W := 0) (k' := 12) (n' := 37) (argsL := [(.ref ad1_0)]) (rest := []) at_283 (hw _ (List.mem_of_getElem? (i := 48) rfl)) (hw _ (List.mem_of_getElem? (i := 49) rfl)) (hw _ (List.mem_of_getElem? (i := 51) rfl)) (hw _ (List.mem_of_getElem? (i := 50) rfl)) (hw _ (List.mem_of_getElem? (i := 11) rfl)) (hw _ (List.mem_of_getElem? (i := 52) rfl)) (by decide) F18 (rm8sa l Z a0 hw o ad1_0 cs ad1_1 kc1_0 (nar .byte (c4.toInt8.toInt32)) sv c4 P hd cnt e b k t ya h1 n0 sz3 g_o F18 F19 F20 F21 F22 F23 F24 Fc1_0 Fc1_2 Fc1_1 Fc1_3 (S_CS.ext X2) (S_SF.ext X2) F25 F26 F27 F28 hcs hsv (own_ch (own_c4 hb)) (own_c4 hb).1 hv hlt (Ne.symm (Nat.ne_of_lt lt_o_ad1_0)) (Ne.symm (Nat.ne_of_lt lt_o_ad1_1)) ne_e_o ne_t_o ne_ya_o (Ne.symm (Nat.ne_of_lt lt_ya_ad1_0)) (Ne.symm (Nat.ne_of_lt lt_ya_ad1_1)) ne_e_ya ne_t_ya) (by decide) (by decide) rfl rfl (by decide) (by decide) rfl pd_28Ljava2flang2fCharSequence3b29V rfl rfl rfl (Nat.le_of_ble_eq_true rfl) rfl ?_
        rintro h29 v29 ⟨rfl, K29, Fc29_0, Fc29_1, Fc29_2, Fc29_3, Fc29_4, Fc29_5, Fc29_6⟩
        have X30 : Ext h0 h29 := OwnW.ext_keep X2 K29 (allS z_o all0)
        have sz31 : n0 ≤ h29.size := Nat.le_trans sz3 K29.1
        show GoB0 l Z n0 OwnW.One1 h29 12 37 286 #[.val (.int p0), .val (.int p1), .val (.long p2), .second, .val (.int p3), .val (.int k), .val (.ref e), .val (.int b), .val (.int n), .val (.int c0), .val (.int c1), .val (.int c2), .val (.int c3), .val (.int c4), .val (.int c5), .val (.int c6), .val (.int c7), .val (.ref ya), .val (.ref o), .unset, .unset, .unset, .unset, .unset] []
        have F32 := (F25.keep K29 (ninS ne_e_o nin0))
        have F33 := (F26.keep K29)
        have F34 := (F27.keep K29 (ninS ne_e_o nin0))
        have F35 := (F28.keep K29 (ninS ne_t_o nin0))
        have F36 := ((Y_by.keep K1 nin0).keep K29 (ninS ne_ya_o nin0))
        exact OwnW.Go.more (by decide) (by decide) (parta5 l Z a0 hw p0 p1 p2 p3 k e b n c0 c1 c2 c3 c4 c5 c6 c7 o ya (((P <<< (b &&& 31)) ||| (f18 k c4))) ((hd + b)) cnt t cs sv h0 h29 n0 sz31 X30 g_o z_o g_ya z_ya Fc29_0 Fc29_1 Fc29_2 Fc29_3 Fc29_4 Fc29_5 Fc29_6 F32 F33 F34 F35 F36 S_CS S_SF ne_e_o ne_t_o ne_ya_o ne_e_ya ne_t_ya hcs hsv hk hb (own_Is4 hk hI hv hlt hc273) (own_Ys (i := 4) hk hI hY hlt))
      ·
        have F37 := (E_o.keep K1)
        have F38 := (F_al.keep K1 nin0)
        have F39 := (F_enc.keep K1 nin0)
        have F40 := (F_P.keep K1 nin0)
        have F41 := (F_hd.keep K1 nin0)
        have F42 := (F_by.keep K1 nin0)
        have F43 := (F_cnt.keep K1 nin0)
        have F44 := (F_b.keep K1 nin0)
        have F45 := (E_e.keep K1)
        have F46 := (F_t.keep K1 nin0)
        have F47 := (T_t.keep K1 nin0)
        have F48 := (Y_by.keep K1 nin0)
        refine OwnW.callV (a0 := a0) (pc' := 286) (W := 0) (k' := 12) (n' := 37) (argsL := [(.ref ad1_0)]) (rest := []) at_283 (hw _ (List.mem_of_getElem? (i := 48) rfl)) (hw _ (List.mem_of_getElem? (i := 49) rfl)) (hw _ (List.mem_of_getElem? (i := 51) rfl)) (hw _ (List.mem_of_getElem? (i := 50) rfl)) (hw _ (List.mem_of_getElem? (i := 11) rfl)) (hw _ (List.mem_of_getElem? (i := 52) rfl)) (by decide) F37 (rm8aa l Z a0 hw o ad1_0 cs ad1_1 kc1_0 (nar .byte (c4.toInt8.toInt32)) sv c4 P hd cnt e b k t ya h1 n0 sz3 g_o g_ya F37 F38 F39 F40 F41 F42 F43 Fc1_0 Fc1_2 Fc1_1 Fc1_3 (S_CS.ext X2) (S_SF.ext X2) F44 F45 F46 F47 F48 hcs hsv (own_ch (own_c4 hb)) (own_c4 hb).1 hv hlt (own_cnt hk hY) (Ne.symm (Nat.ne_of_lt lt_o_ad1_0)) (Ne.symm (Nat.ne_of_lt lt_o_ad1_1)) ne_e_o ne_t_o ne_ya_o (Ne.symm (Nat.ne_of_lt lt_ya_ad1_0)) (Ne.symm (Nat.ne_of_lt lt_ya_ad1_1)) ne_e_ya ne_t_ya) (by decide) (by decide) rfl rfl (by decide) (by decide) rfl pd_28Ljava2flang2fCharSequence3b29V rfl rfl rfl (Nat.le_of_ble_eq_true rfl) rfl ?_
        rintro h49 v49 ⟨rfl, K49, Fc49_0, Fc49_1, Fc49_2, Fc49_3, Fc49_4, Fc49_5, Fc49_6, Fc49_7⟩
        have X50 : Ext h0 h49 := OwnW.ext_keep X2 K49 (allS z_o (allS z_ya all0))
        have sz51 : n0 ≤ h49.size := Nat.le_trans sz3 K49.1
        show GoB0 l Z n0 OwnW.One1 h49 12 37 286 #[.val (.int p0), .val (.int p1), .val (.long p2), .second, .val (.int p3), .val (.int k), .val (.ref e), .val (.int b), .val (.int n), .val (.int c0), .val (.int c1), .val (.int c2), .val (.int c3), .val (.int c4), .val (.int c5), .val (.int c6), .val (.int c7), .val (.ref ya), .val (.ref o), .unset, .unset, .unset, .unset, .unset] []
        have F52 := (F44.keep K49 (ninS ne_e_o (ninS ne_e_ya nin0)))
        have F53 := (F45.keep K49)
        have F54 := (F46.keep K49 (ninS ne_e_o (ninS ne_e_ya nin0)))
        have F55 := (F47.keep K49 (ninS ne_t_o (ninS ne_t_ya nin0)))
        exact OwnW.Go.more (by decide) (by decide) (parta5 l Z a0 hw p0 p1 p2 p3 k e b n c0 c1 c2 c3 c4 c5 c6 c7 o ya ((((P <<< (b &&& 31)) ||| (f18 k c4)) &&& (((1 : Int32) <<< (((hd + b) - (8 : Int32)) &&& 31)) - (1 : Int32)))) (((hd + b) - (8 : Int32))) ((cnt + (1 : Int32))) t cs sv h0 h49 n0 sz51 X50 g_o z_o g_ya z_ya Fc49_0 Fc49_1 Fc49_2 Fc49_3 Fc49_4 Fc49_5 Fc49_6 F52 F53 F54 F55 Fc49_7 S_CS S_SF ne_e_o ne_t_o ne_ya_o ne_e_ya ne_t_ya hcs hsv hk hb (own_Il4 hk hI hv hlt hc273) (own_Yl (i := 4) hk hI hY hlt))
  ·
    refine OwnW.icmpY (pc' := 286) at_273 (flt hc273).2.2.2 (by decide) (by decide) ?_
    refine OwnW.iload (pc' := 288) at_286 rfl rfl ?_
    refine OwnW.iconst (pc' := 289) (v := (5 : Int32)) at_288 rfl rfl ?_
    refine OwnW.icmpY (pc' := 302) at_289 (flt (own_nlt hc273 (by decide))).2.2.2 (by decide) (by decide) ?_
    refine OwnW.iload (pc' := 304) at_302 rfl rfl ?_
    refine OwnW.bipush (pc' := 306) (v := (6 : Int32)) at_304 rfl rfl ?_
    refine OwnW.icmpY (pc' := 319) at_306 (flt (own_nlt hc273 (by decide))).2.2.2 (by decide) (by decide) ?_
    refine OwnW.iload (pc' := 321) at_319 rfl rfl ?_
    refine OwnW.bipush (pc' := 323) (v := (7 : Int32)) at_321 rfl rfl ?_
    refine OwnW.icmpY (pc' := 336) at_323 (flt (own_nlt hc273 (by decide))).2.2.2 (by decide) (by decide) ?_
    exact OwnW.Go.more (by decide) (by decide) (tailG l Z a0 hw p0 p1 p2 p3 k e b n c0 c1 c2 c3 c4 c5 c6 c7 o ((Value.ref ya)) P hd cs sv h0 hc n0 Z0 XB E_o F_al F_enc F_P F_hd F_b S_CS S_SF hk (own_Iend hI hc273))
set_option maxRecDepth 65536 in
set_option maxHeartbeats 400000000 in
theorem partz3 (l : Launch) (Z : State) (a0 : Array Value) (hw : ∀ d ∈ tables_1, d.before a0 Z = true) (p0 : Int32) (p1 : Int32) (p2 : Int64) (p3 : Int32) (k : Int32) (e : Addr) (b : Int32) (n : Int32) (c0 : Int32) (c1 : Int32) (c2 : Int32) (c3 : Int32) (c4 : Int32) (c5 : Int32) (c6 : Int32) (c7 : Int32) (o : Addr) (yv : Value) (cs : Int32) (sv : Value) (h0 hc : Heap) (n0 : Nat) (Z0 : n0 ≤ hc.size) (XB : Ext h0 hc) (g_o : n0 ≤ o) (z_o : h0.size ≤ o) (E_o : Exa Z hc o "com/example/plumbline/plumbline/BaseEncoding$Reading") (F_al : Fld Z hc o "com/example/plumbline/plumbline/BaseEncoding$Reading" "inAlphabet" "Z" (.int (0 : Int32))) (S_CS : Sta Z h0 "java/lang/String" "COMPACT_STRINGS" "Z" (.int cs)) (S_SF : Sta Z h0 "jdk/internal/util/Preconditions" "SIOOBE_FORMATTER" "Ljava/util/function/BiFunction;" sv) (hcs : ¬ cs = (0 : Int32)) (hsv : sv.isRef = true) (hk : own_K k b) (hb : own_C c0 c1 c2 c3 c4 c5 c6 c7) (hB : own_B k n c0 c1 c2 c3 c4 c5 c6 c7) :
    GoB0 l Z n0 OwnW.One1 hc 8 27 254 #[.val (.int p0), .val (.int p1), .val (.long p2), .second, .val (.int p3), .val (.int k), .val (.ref e), .val (.int b), .val (.int n), .val (.int c0), .val (.int c1), .val (.int c2), .val (.int c3), .val (.int c4), .val (.int c5), .val (.int c6), .val (.int c7), .val yv, .val (.ref o), .unset, .unset, .unset, .unset, .unset] [] := by
  refine OwnW.iload (pc' := 256) at_254 rfl rfl ?_
  refine OwnW.iconst (pc' := 257) (v := (3 : Int32)) at_256 rfl rfl ?_
  by_cases hc257 : (3 : Int32) < n
  ·
    refine OwnW.icmpN (pc' := 260) at_257 (tlt hc257).2.2.2 rfl ?_
    refine OwnW.aload (pc' := 262) at_260 rfl (rfl) rfl ?_
    refine OwnW.iload (pc' := 264) at_262 rfl rfl ?_
    refine OwnW.callS (a0 := a0) (pc' := 267) (W := 1) (k' := 10) (n' := 32) (argsL := [(.int c3)]) (rest := [(.ref o)]) at_264 (hw _ (List.mem_of_getElem? (i := 24) rfl)) (hw _ (List.mem_of_getElem? (i := 25) rfl)) (hw _ (List.mem_of_getElem? (i := 26) rfl)) (hw _ (List.mem_of_getElem? (i := 27) rfl)) (by decide) (rm4 l Z a0 hw c3 cs hc n0 Z0 (S_CS.ext XB) hcs (own_c3 hb).2) (by decide) (by decide) rfl rfl (by decide) (by decide) rfl pd_28C29Ljava2flang2fString3b rfl rfl rfl (Nat.le_of_ble_eq_true rfl) rfl ?_
    rintro h1 v1 ⟨ad1_0, ad1_1, kc1_0, rfl, K1, gl1_0, gl1_1, nn1_0_1, Fc1_0, Fc1_1, Fc1_2, Fc1_3⟩
    have lt_o_ad1_0 : @LT.lt Nat _ o ad1_0 := Nat.lt_of_lt_of_le (E_o).lt gl1_0
    have ge_ad1_0 : n0 ≤ ad1_0 := Nat.le_trans Z0 gl1_0
    have lt_o_ad1_1 : @LT.lt Nat _ o ad1_1 := Nat.lt_of_lt_of_le (E_o).lt gl1_1
    have ge_ad1_1 : n0 ≤ ad1_1 := Nat.le_trans Z0 gl1_1
    have X2 : Ext h0 h1 := OwnW.ext_keep XB K1 all0
    have sz3 : n0 ≤ h1.size := Nat.le_trans Z0 K1.1
    show GoB0 l Z n0 OwnW.One1 h1 10 32 267 #[.val (.int p0), .val (.int p1), .val (.long p2), .second, .val (.int p3), .val (.int k), .val (.ref e), .val (.int b), .val (.int n), .val (.int c0), .val (.int c1), .val (.int c2), .val (.int c3), .val (.int c4), .val (.int c5), .val (.int c6), .val (.int c7), .val yv, .val (.ref o), .unset, .unset, .unset, .unset, .unset] [(.ref ad1_0), (.ref o)]
    have F4 := (E_o.keep K1)
    have F5 := (F_al.keep K1 nin0)
    refine OwnW.callV (a0 := a0) (pc' := 270) (W := 0) (k' := 10) (n' := 32) (argsL := [(.ref ad1_0)]) (rest := []) at_267 (hw _ (List.mem_of_getElem? (i := 48) rfl)) (hw _ (List.mem_of_getElem? (i := 49) rfl)) (hw _ (List.mem_of_getElem? (i := 51) rfl)) (hw _ (List.mem_of_getElem? (i := 50) rfl)) (hw _ (List.mem_of_getElem? (i := 11) rfl)) (hw _ (List.mem_of_getElem? (i := 52) rfl)) (by decide) F4 (rm8z l Z a0 hw o ad1_0 cs ad1_1 kc1_0 (nar .byte (c3.toInt8.toInt32)) sv h1 n0 sz3 g_o F4 F5 Fc1_0 Fc1_2 Fc1_1 Fc1_3 (S_CS.ext X2) (S_SF.ext X2) hcs hsv) (by decide) (by decide) rfl rfl (by decide) (by decide) rfl pd_28Ljava2flang2fCharSequence3b29V rfl rfl rfl (Nat.le_of_ble_eq_true rfl) rfl ?_
    rintro h6 v6 ⟨rfl, K6, Fc6_0, Fc6_1⟩
    have X7 : Ext h0 h6 := OwnW.ext_keep X2 K6 (allS z_o all0)
    have sz8 : n0 ≤ h6.size := Nat.le_trans sz3 K6.1
    show GoB0 l Z n0 OwnW.One1 h6 10 32 270 #[.val (.int p0), .val (.int p1), .val (.long p2), .second, .val (.int p3), .val (.int k), .val (.ref e), .val (.int b), .val (.int n), .val (.int c0), .val (.int c1), .val (.int c2), .val (.int c3), .val (.int c4), .val (.int c5), .val (.int c6), .val (.int c7), .val yv, .val (.ref o), .unset, .unset, .unset, .unset, .unset] []
    exact OwnW.Go.more (by decide) (by decide) (partz4 l Z a0 hw p0 p1 p2 p3 k e b n c0 c1 c2 c3 c4 c5 c6 c7 o yv cs sv h0 h6 n0 sz8 X7 g_o z_o Fc6_0 Fc6_1 S_CS S_SF hcs hsv hk hb hB)
  ·
    refine OwnW.icmpY (pc' := 270) at_257 (flt hc257).2.2.2 (by decide) (by decide) ?_
    refine OwnW.iload (pc' := 272) at_270 rfl rfl ?_
    refine OwnW.iconst (pc' := 273) (v := (4 : Int32)) at_272 rfl rfl ?_
    refine OwnW.icmpY (pc' := 286) at_273 (flt (own_nlt hc257 (by decide))).2.2.2 (by decide) (by decide) ?_
    refine OwnW.iload (pc' := 288) at_286 rfl rfl ?_
    refine OwnW.iconst (pc' := 289) (v := (5 : Int32)) at_288 rfl rfl ?_
    refine OwnW.icmpY (pc' := 302) at_289 (flt (own_nlt hc257 (by decide))).2.2.2 (by decide) (by decide) ?_
    refine OwnW.iload (pc' := 304) at_302 rfl rfl ?_
    refine OwnW.bipush (pc' := 306) (v := (6 : Int32)) at_304 rfl rfl ?_
    refine OwnW.icmpY (pc' := 319) at_306 (flt (own_nlt hc257 (by decide))).2.2.2 (by decide) (by decide) ?_
    refine OwnW.iload (pc' := 321) at_319 rfl rfl ?_
    refine OwnW.bipush (pc' := 323) (v := (7 : Int32)) at_321 rfl rfl ?_
    refine OwnW.icmpY (pc' := 336) at_323 (flt (own_nlt hc257 (by decide))).2.2.2 (by decide) (by decide) ?_
    exact OwnW.Go.more (by decide) (by decide) (tailZ l Z a0 hw p0 p1 p2 p3 k e b n c0 c1 c2 c3 c4 c5 c6 c7 o yv cs sv h0 hc n0 Z0 XB E_o F_al S_CS S_SF hk hB)
set_option maxRecDepth 65536 in
set_option maxHeartbeats 400000000 in
theorem partn3 (l : Launch) (Z : State) (a0 : Array Value) (hw : ∀ d ∈ tables_1, d.before a0 Z = true) (p0 : Int32) (p1 : Int32) (p2 : Int64) (p3 : Int32) (k : Int32) (e : Addr) (b : Int32) (n : Int32) (c0 : Int32) (c1 : Int32) (c2 : Int32) (c3 : Int32) (c4 : Int32) (c5 : Int32) (c6 : Int32) (c7 : Int32) (o : Addr) (P : Int32) (hd : Int32) (cnt : Int32) (t : Addr) (cs : Int32) (sv : Value) (h0 hc : Heap) (n0 : Nat) (Z0 : n0 ≤ hc.size) (XB : Ext h0 hc) (g_o : n0 ≤ o) (z_o : h0.size ≤ o) (E_o : Exa Z hc o "com/example/plumbline/plumbline/BaseEncoding$Reading") (F_al : Fld Z hc o "com/example/plumbline/plumbline/BaseEncoding$Reading" "inAlphabet" "Z" (.int (1 : Int32))) (F_enc : Fld Z hc o "com/example/plumbline/plumbline/BaseEncoding$Reading" "encoding" "Lcom/example/plumbline/plumbline/BaseEncoding;" (.ref e)) (F_P : Fld Z hc o "com/example/plumbline/plumbline/BaseEncoding$Reading" "pending" "I" (.int P)) (F_hd : Fld Z hc o "com/example/plumbline/plumbline/BaseEncoding$Reading" "held" "I" (.int hd)) (F_by : Fld Z hc o "com/example/plumbline/plumbline/BaseEncoding$Reading" "bytes" "[B" .null) (F_cnt : Fld Z hc o "com/example/plumbline/plumbline/BaseEncoding$Reading" "count" "I" (.int cnt)) (F_b : Fld Z hc e "com/example/plumbline/plumbline/BaseEncoding" "bits" "I" (.int b)) (E_e : Exa Z hc e "com/example/plumbline/plumbline/BaseEncoding") (F_t : Fld Z hc e "com/example/plumbline/plumbline/BaseEncoding" "values" "[I" (.ref t)) (T_t : Tab Z hc t k) (S_CS : Sta Z h0 "java/lang/String" "COMPACT_STRINGS" "Z" (.int cs)) (S_SF : Sta Z h0 "jdk/internal/util/Preconditions" "SIOOBE_FORMATTER" "Ljava/util/function/BiFunction;" sv) (ne_e_o : e ≠ o) (ne_t_o : t ≠ o) (hcs : ¬ cs = (0 : Int32)) (hsv : sv.isRef = true) (hk : own_K k b) (hb : own_C c0 c1 c2 c3 c4 c5 c6 c7) (hI : own_I 3 k b n hd P c0 c1 c2 c3 c4 c5 c6 c7) :
    GoB0 l Z n0 OwnW.One1 hc 8 27 254 #[.val (.int p0), .val (.int p1), .val (.long p2), .second, .val (.int p3), .val (.int k), .val (.ref e), .val (.int b), .val (.int n), .val (.int c0), .val (.int c1), .val (.int c2), .val (.int c3), .val (.int c4), .val (.int c5), .val (.int c6), .val (.int c7), .val .null, .val (.ref o), .unset, .unset, .unset, .unset, .unset] [] := by
  refine OwnW.iload (pc' := 256) at_254 rfl rfl ?_
  refine OwnW.iconst (pc' := 257) (v := (3 : Int32)) at_256 rfl rfl ?_
  by_cases hc257 : (3 : Int32) < n
  ·
    refine OwnW.icmpN (pc' := 260) at_257 (tlt hc257).2.2.2 rfl ?_
    refine OwnW.aload (pc' := 262) at_260 rfl (rfl) rfl ?_
    refine OwnW.iload (pc' := 264) at_262 rfl rfl ?_
    refine OwnW.callS (a0 := a0) (pc' := 267) (W := 1) (k' := 10) (n' := 32) (argsL := [(.int c3)]) (rest := [(.ref o)]) at_264 (hw _ (List.mem_of_getElem? (i := 24) rfl)) (hw _ (List.mem_of_getElem? (i := 25) rfl)) (hw _ (List.mem_of_getElem? (i := 26) rfl)) (hw _ (List.mem_of_getElem? (i := 27) rfl)) (by decide) (rm4 l Z a0 hw c3 cs hc n0 Z0 (S_CS.ext XB) hcs (own_c3 hb).2) (by decide) (by decide) rfl rfl (by decide) (by decide) rfl pd_28C29Ljava2flang2fString3b rfl rfl rfl (Nat.le_of_ble_eq_true rfl) rfl ?_
    rintro h1 v1 ⟨ad1_0, ad1_1, kc1_0, rfl, K1, gl1_0, gl1_1, nn1_0_1, Fc1_0, Fc1_1, Fc1_2, Fc1_3⟩
    have lt_o_ad1_0 : @LT.lt Nat _ o ad1_0 := Nat.lt_of_lt_of_le (E_o).lt gl1_0
    have lt_e_ad1_0 : @LT.lt Nat _ e ad1_0 := Nat.lt_of_lt_of_le (E_e).lt gl1_0
    have lt_t_ad1_0 : @LT.lt Nat _ t ad1_0 := Nat.lt_of_lt_of_le (T_t).lt gl1_0
    have ge_ad1_0 : n0 ≤ ad1_0 := Nat.le_trans Z0 gl1_0
    have lt_o_ad1_1 : @LT.lt Nat _ o ad1_1 := Nat.lt_of_lt_of_le (E_o).lt gl1_1
    have lt_e_ad1_1 : @LT.lt Nat _ e ad1_1 := Nat.lt_of_lt_of_le (E_e).lt gl1_1
    have lt_t_ad1_1 : @LT.lt Nat _ t ad1_1 := Nat.lt_of_lt_of_le (T_t).lt gl1_1
    have ge_ad1_1 : n0 ≤ ad1_1 := Nat.le_trans Z0 gl1_1
    have X2 : Ext h0 h1 := OwnW.ext_keep XB K1 all0
    have sz3 : n0 ≤ h1.size := Nat.le_trans Z0 K1.1
    show GoB0 l Z n0 OwnW.One1 h1 10 32 267 #[.val (.int p0), .val (.int p1), .val (.long p2), .second, .val (.int p3), .val (.int k), .val (.ref e), .val (.int b), .val (.int n), .val (.int c0), .val (.int c1), .val (.int c2), .val (.int c3), .val (.int c4), .val (.int c5), .val (.int c6), .val (.int c7), .val .null, .val (.ref o), .unset, .unset, .unset, .unset, .unset] [(.ref ad1_0), (.ref o)]
    by_cases hv : (f18 k c3) < (0 : Int32)
    ·
      have F4 := (E_o.keep K1)
      have F5 := (F_al.keep K1 nin0)
      have F6 := (F_enc.keep K1 nin0)
      have F7 := (F_P.keep K1 nin0)
      have F8 := (F_hd.keep K1 nin0)
      have F9 := (F_by.keep K1 nin0)
      have F10 := (F_cnt.keep K1 nin0)
      have F11 := (F_b.keep K1 nin0)
      have F12 := (E_e.keep K1)
      have F13 := (F_t.keep K1 nin0)
      have F14 := (T_t.keep K1 nin0)
      refine OwnW.callV (a0 := a0) (pc' := 270) (W := 0) (k' := 10) (n' := 32) (argsL := [(.ref ad1_0)]) (rest := []) at_267 (hw _ (List.mem_of_getElem? (i := 48) rfl)) (hw _ (List.mem_of_getElem? (i := 49) rfl)) (hw _ (List.mem_of_getElem? (i := 51) rfl)) (hw _ (List.mem_of_getElem? (i := 50) rfl)) (hw _ (List.mem_of_getElem? (i := 11) rfl)) (hw _ (List.mem_of_getElem? (i := 52) rfl)) (by decide) F4 (rm8xn l Z a0 hw o ad1_0 cs ad1_1 kc1_0 (nar .byte (c3.toInt8.toInt32)) sv c3 P hd cnt e b k t h1 n0 sz3 g_o F4 F5 F6 F7 F8 F9 F10 Fc1_0 Fc1_2 Fc1_1 Fc1_3 (S_CS.ext X2) (S_SF.ext X2) F11 F12 F13 F14 hcs hsv (own_ch (own_c3 hb)) (own_c3 hb).1 hv (Ne.symm (Nat.ne_of_lt lt_o_ad1_0)) (Ne.symm (Nat.ne_of_lt lt_o_ad1_1)) ne_e_o ne_t_o) (by decide) (by decide) rfl rfl (by decide) (by decide) rfl pd_28Ljava2flang2fCharSequence3b29V rfl rfl rfl (Nat.le_of_ble_eq_true rfl) rfl ?_
      rintro h15 v15 ⟨rfl, K15, Fc15_0, Fc15_1⟩
      have X16 : Ext h0 h15 := OwnW.ext_keep X2 K15 (allS z_o all0)
      have sz17 : n0 ≤ h15.size := Nat.le_trans sz3 K15.1
      show GoB0 l Z n0 OwnW.One1 h15 10 32 270 #[.val (.int p0), .val (.int p1), .val (.long p2), .second, .val (.int p3), .val (.int k), .val (.ref e), .val (.int b), .val (.int n), .val (.int c0), .val (.int c1), .val (.int c2), .val (.int c3), .val (.int c4), .val (.int c5), .val (.int c6), .val (.int c7), .val .null, .val (.ref o), .unset, .unset, .unset, .unset, .unset] []
      exact OwnW.Go.more (by decide) (by decide) (partz4 l Z a0 hw p0 p1 p2 p3 k e b n c0 c1 c2 c3 c4 c5 c6 c7 o Value.null cs sv h0 h15 n0 sz17 X16 g_o z_o Fc15_0 Fc15_1 S_CS S_SF hcs hsv hk hb (own_B3 hv hc257))
    ·
      by_cases hlt : (hd + b) < (8 : Int32)
      ·
        have F18 := (E_o.keep K1)
        have F19 := (F_al.keep K1 nin0)
        have F20 := (F_enc.keep K1 nin0)
        have F21 := (F_P.keep K1 nin0)
        have F22 := (F_hd.keep K1 nin0)
        have F23 := (F_by.keep K1 nin0)
        have F24 := (F_cnt.keep K1 nin0)
        have F25 := (F_b.keep K1 nin0)
        have F26 := (E_e.keep K1)
        have F27 := (F_t.keep K1 nin0)
        have F28 := (T_t.keep K1 nin0)
        refine OwnW.callV (a0 := a0) (pc' := 270) (W := 0) (k' := 10) (n' := 32) (argsL := [(.ref ad1_0)]) (rest := []) at_267 (hw _ (List.mem_of_getElem? (i := 48) rfl)) (hw _ (List.mem_of_getElem? (i := 49) rfl)) (hw _ (List.mem_of_getElem? (i := 51) rfl)) (hw _ (List.mem_of_getElem? (i := 50) rfl)) (hw _ (List.mem_of_getElem? (i := 11) rfl)) (hw _ (List.mem_of_getElem? (i := 52) rfl)) (by decide) F18 (rm8sn l Z a0 hw o ad1_0 cs ad1_1 kc1_0 (nar .byte (c3.toInt8.toInt32)) sv c3 P hd cnt e b k t h1 n0 sz3 g_o F18 F19 F20 F21 F22 F23 F24 Fc1_0 Fc1_2 Fc1_1 Fc1_3 (S_CS.ext X2) (S_SF.ext X2) F25 F26 F27 F28 hcs hsv (own_ch (own_c3 hb)) (own_c3 hb).1 hv hlt (Ne.symm (Nat.ne_of_lt lt_o_ad1_0)) (Ne.symm (Nat.ne_of_lt lt_o_ad1_1)) ne_e_o ne_t_o) (by decide) (by decide) rfl rfl (by decide) (by decide) rfl pd_28Ljava2flang2fCharSequence3b29V rfl rfl rfl (Nat.le_of_ble_eq_true rfl) rfl ?_
        rintro h29 v29 ⟨rfl, K29, Fc29_0, Fc29_1, Fc29_2, Fc29_3, Fc29_4, Fc29_5, Fc29_6⟩
        have X30 : Ext h0 h29 := OwnW.ext_keep X2 K29 (allS z_o all0)
        have sz31 : n0 ≤ h29.size := Nat.le_trans sz3 K29.1
        show GoB0 l Z n0 OwnW.One1 h29 10 32 270 #[.val (.int p0), .val (.int p1), .val (.long p2), .second, .val (.int p3), .val (.int k), .val (.ref e), .val (.int b), .val (.int n), .val (.int c0), .val (.int c1), .val (.int c2), .val (.int c3), .val (.int c4), .val (.int c5), .val (.int c6), .val (.int c7), .val .null, .val (.ref o), .unset, .unset, .unset, .unset, .unset] []
        have F32 := (F25.keep K29 (ninS ne_e_o nin0))
        have F33 := (F26.keep K29)
        have F34 := (F27.keep K29 (ninS ne_e_o nin0))
        have F35 := (F28.keep K29 (ninS ne_t_o nin0))
        exact OwnW.Go.more (by decide) (by decide) (partn4 l Z a0 hw p0 p1 p2 p3 k e b n c0 c1 c2 c3 c4 c5 c6 c7 o (((P <<< (b &&& 31)) ||| (f18 k c3))) ((hd + b)) cnt t cs sv h0 h29 n0 sz31 X30 g_o z_o Fc29_0 Fc29_1 Fc29_2 Fc29_3 Fc29_4 Fc29_5 Fc29_6 F32 F33 F34 F35 S_CS S_SF ne_e_o ne_t_o hcs hsv hk hb (own_Is3 hk hI hv hlt hc257))
      ·
        have F36 := (E_o.keep K1)
        have F37 := (F_al.keep K1 nin0)
        have F38 := (F_enc.keep K1 nin0)
        have F39 := (F_P.keep K1 nin0)
        have F40 := (F_hd.keep K1 nin0)
        have F41 := (F_by.keep K1 nin0)
        have F42 := (F_cnt.keep K1 nin0)
        have F43 := (F_b.keep K1 nin0)
        have F44 := (E_e.keep K1)
        have F45 := (F_t.keep K1 nin0)
        have F46 := (T_t.keep K1 nin0)
        refine OwnW.callV (a0 := a0) (pc' := 270) (W := 0) (k' := 10) (n' := 32) (argsL := [(.ref ad1_0)]) (rest := []) at_267 (hw _ (List.mem_of_getElem? (i := 48) rfl)) (hw _ (List.mem_of_getElem? (i := 49) rfl)) (hw _ (List.mem_of_getElem? (i := 51) rfl)) (hw _ (List.mem_of_getElem? (i := 50) rfl)) (hw _ (List.mem_of_getElem? (i := 11) rfl)) (hw _ (List.mem_of_getElem? (i := 52) rfl)) (by decide) F36 (rm8nn l Z a0 hw o ad1_0 cs ad1_1 kc1_0 (nar .byte (c3.toInt8.toInt32)) sv c3 P hd cnt e b k t h1 n0 sz3 g_o F36 F37 F38 F39 F40 F41 F42 Fc1_0 Fc1_2 Fc1_1 Fc1_3 (S_CS.ext X2) (S_SF.ext X2) F43 F44 F45 F46 hcs hsv (own_ch (own_c3 hb)) (own_c3 hb).1 hv hlt (Ne.symm (Nat.ne_of_lt lt_o_ad1_0)) (Ne.symm (Nat.ne_of_lt lt_o_ad1_1)) ne_e_o ne_t_o) (by decide) (by decide) rfl rfl (by decide) (by decide) rfl pd_28Ljava2flang2fCharSequence3b29V rfl rfl rfl (Nat.le_of_ble_eq_true rfl) rfl ?_
        rintro h47 v47 ⟨rfl, K47, Fc47_0, Fc47_1, Fc47_2, Fc47_3, Fc47_4, Fc47_5, Fc47_6⟩
        have X48 : Ext h0 h47 := OwnW.ext_keep X2 K47 (allS z_o all0)
        have sz49 : n0 ≤ h47.size := Nat.le_trans sz3 K47.1
        show GoB0 l Z n0 OwnW.One1 h47 10 32 270 #[.val (.int p0), .val (.int p1), .val (.long p2), .second, .val (.int p3), .val (.int k), .val (.ref e), .val (.int b), .val (.int n), .val (.int c0), .val (.int c1), .val (.int c2), .val (.int c3), .val (.int c4), .val (.int c5), .val (.int c6), .val (.int c7), .val .null, .val (.ref o), .unset, .unset, .unset, .unset, .unset] []
        have F50 := (F43.keep K47 (ninS ne_e_o nin0))
        have F51 := (F44.keep K47)
        have F52 := (F45.keep K47 (ninS ne_e_o nin0))
        have F53 := (F46.keep K47 (ninS ne_t_o nin0))
        exact OwnW.Go.more (by decide) (by decide) (partn4 l Z a0 hw p0 p1 p2 p3 k e b n c0 c1 c2 c3 c4 c5 c6 c7 o ((((P <<< (b &&& 31)) ||| (f18 k c3)) &&& (((1 : Int32) <<< (((hd + b) - (8 : Int32)) &&& 31)) - (1 : Int32)))) (((hd + b) - (8 : Int32))) cnt t cs sv h0 h47 n0 sz49 X48 g_o z_o Fc47_0 Fc47_1 Fc47_2 Fc47_3 Fc47_4 Fc47_5 Fc47_6 F50 F51 F52 F53 S_CS S_SF ne_e_o ne_t_o hcs hsv hk hb (own_Il3 hk hI hv hlt hc257))
  ·
    refine OwnW.icmpY (pc' := 270) at_257 (flt hc257).2.2.2 (by decide) (by decide) ?_
    refine OwnW.iload (pc' := 272) at_270 rfl rfl ?_
    refine OwnW.iconst (pc' := 273) (v := (4 : Int32)) at_272 rfl rfl ?_
    refine OwnW.icmpY (pc' := 286) at_273 (flt (own_nlt hc257 (by decide))).2.2.2 (by decide) (by decide) ?_
    refine OwnW.iload (pc' := 288) at_286 rfl rfl ?_
    refine OwnW.iconst (pc' := 289) (v := (5 : Int32)) at_288 rfl rfl ?_
    refine OwnW.icmpY (pc' := 302) at_289 (flt (own_nlt hc257 (by decide))).2.2.2 (by decide) (by decide) ?_
    refine OwnW.iload (pc' := 304) at_302 rfl rfl ?_
    refine OwnW.bipush (pc' := 306) (v := (6 : Int32)) at_304 rfl rfl ?_
    refine OwnW.icmpY (pc' := 319) at_306 (flt (own_nlt hc257 (by decide))).2.2.2 (by decide) (by decide) ?_
    refine OwnW.iload (pc' := 321) at_319 rfl rfl ?_
    refine OwnW.bipush (pc' := 323) (v := (7 : Int32)) at_321 rfl rfl ?_
    refine OwnW.icmpY (pc' := 336) at_323 (flt (own_nlt hc257 (by decide))).2.2.2 (by decide) (by decide) ?_
    exact OwnW.Go.more (by decide) (by decide) (tailG l Z a0 hw p0 p1 p2 p3 k e b n c0 c1 c2 c3 c4 c5 c6 c7 o Value.null P hd cs sv h0 hc n0 Z0 XB E_o F_al F_enc F_P F_hd F_b S_CS S_SF hk (own_Iend hI hc257))
set_option maxRecDepth 65536 in
set_option maxHeartbeats 400000000 in
theorem parta3 (l : Launch) (Z : State) (a0 : Array Value) (hw : ∀ d ∈ tables_1, d.before a0 Z = true) (p0 : Int32) (p1 : Int32) (p2 : Int64) (p3 : Int32) (k : Int32) (e : Addr) (b : Int32) (n : Int32) (c0 : Int32) (c1 : Int32) (c2 : Int32) (c3 : Int32) (c4 : Int32) (c5 : Int32) (c6 : Int32) (c7 : Int32) (o : Addr) (ya : Addr) (P : Int32) (hd : Int32) (cnt : Int32) (t : Addr) (cs : Int32) (sv : Value) (h0 hc : Heap) (n0 : Nat) (Z0 : n0 ≤ hc.size) (XB : Ext h0 hc) (g_o : n0 ≤ o) (z_o : h0.size ≤ o) (g_ya : n0 ≤ ya) (z_ya : h0.size ≤ ya) (E_o : Exa Z hc o "com/example/plumbline/plumbline/BaseEncoding$Reading") (F_al : Fld Z hc o "com/example/plumbline/plumbline/BaseEncoding$Reading" "inAlphabet" "Z" (.int (1 : Int32))) (F_enc : Fld Z hc o "com/example/plumbline/plumbline/BaseEncoding$Reading" "encoding" "Lcom/example/plumbline/plumbline/BaseEncoding;" (.ref e)) (F_P : Fld Z hc o "com/example/plumbline/plumbline/BaseEncoding$Reading" "pending" "I" (.int P)) (F_hd : Fld Z hc o "com/example/plumbline/plumbline/BaseEncoding$Reading" "held" "I" (.int hd)) (F_by : Fld Z hc o "com/example/plumbline/plumbline/BaseEncoding$Reading" "bytes" "[B" (.ref ya)) (F_cnt : Fld Z hc o "com/example/plumbline/plumbline/BaseEncoding$Reading" "count" "I" (.int cnt)) (F_b : Fld Z hc e "com/example/plumbline/plumbline/BaseEncoding" "bits" "I" (.int b)) (E_e : Exa Z hc e "com/example/plumbline/plumbline/BaseEncoding") (F_t : Fld Z hc e "com/example/plumbline/plumbline/BaseEncoding" "values" "[I" (.ref t)) (T_t : Tab Z hc t k) (Y_by : Byt Z hc ya) (S_CS : Sta Z h0 "java/lang/String" "COMPACT_STRINGS" "Z" (.int cs)) (S_SF : Sta Z h0 "jdk/internal/util/Preconditions" "SIOOBE_FORMATTER" "Ljava/util/function/BiFunction;" sv) (ne_e_o : e ≠ o) (ne_t_o : t ≠ o) (ne_ya_o : ya ≠ o) (ne_e_ya : e ≠ ya) (ne_t_ya : t ≠ ya) (hcs : ¬ cs = (0 : Int32)) (hsv : sv.isRef = true) (hk : own_K k b) (hb : own_C c0 c1 c2 c3 c4 c5 c6 c7) (hI : own_I 3 k b n hd P c0 c1 c2 c3 c4 c5 c6 c7) (hY : own_Y 3 b cnt) :
    GoB0 l Z n0 OwnW.One1 hc 8 27 254 #[.val (.int p0), .val (.int p1), .val (.long p2), .second, .val (.int p3), .val (.int k), .val (.ref e), .val (.int b), .val (.int n), .val (.int c0), .val (.int c1), .val (.int c2), .val (.int c3), .val (.int c4), .val (.int c5), .val (.int c6), .val (.int c7), .val (.ref ya), .val (.ref o), .unset, .unset, .unset, .unset, .unset] [] := by
  refine OwnW.iload (pc' := 256) at_254 rfl rfl ?_
  refine OwnW.iconst (pc' := 257) (v := (3 : Int32)) at_256 rfl rfl ?_
  by_cases hc257 : (3 : Int32) < n
  ·
    refine OwnW.icmpN (pc' := 260) at_257 (tlt hc257).2.2.2 rfl ?_
    refine OwnW.aload (pc' := 262) at_260 rfl (rfl) rfl ?_
    refine OwnW.iload (pc' := 264) at_262 rfl rfl ?_
    refine OwnW.callS (a0 := a0) (pc' := 267) (W := 1) (k' := 10) (n' := 32) (argsL := [(.int c3)]) (rest := [(.ref o)]) at_264 (hw _ (List.mem_of_getElem? (i := 24) rfl)) (hw _ (List.mem_of_getElem? (i := 25) rfl)) (hw _ (List.mem_of_getElem? (i := 26) rfl)) (hw _ (List.mem_of_getElem? (i := 27) rfl)) (by decide) (rm4 l Z a0 hw c3 cs hc n0 Z0 (S_CS.ext XB) hcs (own_c3 hb).2) (by decide) (by decide) rfl rfl (by decide) (by decide) rfl pd_28C29Ljava2flang2fString3b rfl rfl rfl (Nat.le_of_ble_eq_true rfl) rfl ?_
    rintro h1 v1 ⟨ad1_0, ad1_1, kc1_0, rfl, K1, gl1_0, gl1_1, nn1_0_1, Fc1_0, Fc1_1, Fc1_2, Fc1_3⟩
    have lt_o_ad1_0 : @LT.lt Nat _ o ad1_0 := Nat.lt_of_lt_of_le (E_o).lt gl1_0
    have lt_e_ad1_0 : @LT.lt Nat _ e ad1_0 := Nat.lt_of_lt_of_le (E_e).lt gl1_0
    have lt_t_ad1_0 : @LT.lt Nat _ t ad1_0 := Nat.lt_of_lt_of_le (T_t).lt gl1_0
    have lt_ya_ad1_0 : @LT.lt Nat _ ya ad1_0 := Nat.lt_of_lt_of_le (Y_by).lt gl1_0
    have ge_ad1_0 : n0 ≤ ad1_0 := Nat.le_trans Z0 gl1_0
    have lt_o_ad1_1 : @LT.lt Nat _ o ad1_1 := Nat.lt_of_lt_of_le (E_o).lt gl1_1
    have lt_e_ad1_1 : @LT.lt Nat _ e ad1_1 := Nat.lt_of_lt_of_le (E_e).lt gl1_1
    have lt_t_ad1_1 : @LT.lt Nat _ t ad1_1 := Nat.lt_of_lt_of_le (T_t).lt gl1_1
    have lt_ya_ad1_1 : @LT.lt Nat _ ya ad1_1 := Nat.lt_of_lt_of_le (Y_by).lt gl1_1
    have ge_ad1_1 : n0 ≤ ad1_1 := Nat.le_trans Z0 gl1_1
    have X2 : Ext h0 h1 := OwnW.ext_keep XB K1 all0
    have sz3 : n0 ≤ h1.size := Nat.le_trans Z0 K1.1
    show GoB0 l Z n0 OwnW.One1 h1 10 32 267 #[.val (.int p0), .val (.int p1), .val (.long p2), .second, .val (.int p3), .val (.int k), .val (.ref e), .val (.int b), .val (.int n), .val (.int c0), .val (.int c1), .val (.int c2), .val (.int c3), .val (.int c4), .val (.int c5), .val (.int c6), .val (.int c7), .val (.ref ya), .val (.ref o), .unset, .unset, .unset, .unset, .unset] [(.ref ad1_0), (.ref o)]
    by_cases hv : (f18 k c3) < (0 : Int32)
    ·
      have F4 := (E_o.keep K1)
      have F5 := (F_al.keep K1 nin0)
      have F6 := (F_enc.keep K1 nin0)
      have F7 := (F_P.keep K1 nin0)
      have F8 := (F_hd.keep K1 nin0)
      have F9 := (F_by.keep K1 nin0)
      have F10 := (F_cnt.keep K1 nin0)
      have F11 := (F_b.keep K1 nin0)
      have F12 := (E_e.keep K1)
      have F13 := (F_t.keep K1 nin0)
      have F14 := (T_t.keep K1 nin0)
      refine OwnW.callV (a0 := a0) (pc' := 270) (W := 0) (k' := 10) (n' := 32) (argsL := [(.ref ad1_0)]) (rest := []) at_267 (hw _ (List.mem_of_getElem? (i := 48) rfl)) (hw _ (List.mem_of_getElem? (i := 49) rfl)) (hw _ (List.mem_of_getElem? (i := 51) rfl)) (hw _ (List.mem_of_getElem? (i := 50) rfl)) (hw _ (List.mem_of_getElem? (i := 11) rfl)) (hw _ (List.mem_of_getElem? (i := 52) rfl)) (by decide) F4 (rm8xa l Z a0 hw o ad1_0 cs ad1_1 kc1_0 (nar .byte (c3.toInt8.toInt32)) sv c3 P hd cnt e b k t ya h1 n0 sz3 g_o F4 F5 F6 F7 F8 F9 F10 Fc1_0 Fc1_2 Fc1_1 Fc1_3 (S_CS.ext X2) (S_SF.ext X2) F11 F12 F13 F14 hcs hsv (own_ch (own_c3 hb)) (own_c3 hb).1 hv (Ne.symm (Nat.ne_of_lt lt_o_ad1_0)) (Ne.symm (Nat.ne_of_lt lt_o_ad1_1)) ne_e_o ne_t_o ne_ya_o (Ne.symm (Nat.ne_of_lt lt_ya_ad1_0)) (Ne.symm (Nat.ne_of_lt lt_ya_ad1_1)) ne_e_ya ne_t_ya) (by decide) (by decide) rfl rfl (by decide) (by decide) rfl pd_28Ljava2flang2fCharSequence3b29V rfl rfl rfl (Nat.le_of_ble_eq_true rfl) rfl ?_
      rintro h15 v15 ⟨rfl, K15, Fc15_0, Fc15_1⟩
      have X16 : Ext h0 h15 := OwnW.ext_keep X2 K15 (allS z_o all0)
      have sz17 : n0 ≤ h15.size := Nat.le_trans sz3 K15.1
      show GoB0 l Z n0 OwnW.One1 h15 10 32 270 #[.val (.int p0), .val (.int p1), .val (.long p2), .second, .val (.int p3), .val (.int k), .val (.ref e), .val (.int b), .val (.int n), .val (.int c0), .val (.int c1), .val (.int c2), .val (.int c3), .val (.int c4), .val (.int c5), .val (.int c6), .val (.int c7), .val (.ref ya), .val (.ref o), .unset, .unset, .unset, .unset, .unset] []
      exact OwnW.Go.more (by decide) (by decide) (partz4 l Z a0 hw p0 p1 p2 p3 k e b n c0 c1 c2 c3 c4 c5 c6 c7 o ((Value.ref ya)) cs sv h0 h15 n0 sz17 X16 g_o z_o Fc15_0 Fc15_1 S_CS S_SF hcs hsv hk hb (own_B3 hv hc257))
    ·
      by_cases hlt : (hd + b) < (8 : Int32)
      ·
        have F18 := (E_o.keep K1)
        have F19 := (F_al.keep K1 nin0)
        have F20 := (F_enc.keep K1 nin0)
        have F21 := (F_P.keep K1 nin0)
        have F22 := (F_hd.keep K1 nin0)
        have F23 := (F_by.keep K1 nin0)
        have F24 := (F_cnt.keep K1 nin0)
        have F25 := (F_b.keep K1 nin0)
        have F26 := (E_e.keep K1)
        have F27 := (F_t.keep K1 nin0)
        have F28 := (T_t.keep K1 nin0)
        refine OwnW.callV (a0 := a0) (pc' := 270) (W := 0) (k' := 10) (n' := 32) (argsL := [(.ref ad1_0)]) (rest := []) at_267 (hw _ (List.mem_of_getElem? (i := 48) rfl)) (hw _ (List.mem_of_getElem? (i := 49) rfl)) (hw _ (List.mem_of_getElem? (i := 51) rfl)) (hw _ (List.mem_of_getElem? (i := 50) rfl)) (hw _ (List.mem_of_getElem? (i := 11) rfl)) (hw _ (List.mem_of_getElem? (i := 52) rfl)) (by decide) F18 (rm8sa l Z a0 hw o ad1_0 cs ad1_1 kc1_0 (nar .byte (c3.toInt8.toInt32)) sv c3 P hd cnt e b k t ya h1 n0 sz3 g_o F18 F19 F20 F21 F22 F23 F24 Fc1_0 Fc1_2 Fc1_1 Fc1_3 (S_CS.ext X2) (S_SF.ext X2) F25 F26 F27 F28 hcs hsv (own_ch (own_c3 hb)) (own_c3 hb).1 hv hlt (Ne.symm (Nat.ne_of_lt lt_o_ad1_0)) (Ne.symm (Nat.ne_of_lt lt_o_ad1_1)) ne_e_o ne_t_o ne_ya_o (Ne.symm (Nat.ne_of_lt lt_ya_ad1_0)) (Ne.symm (Nat.ne_of_lt lt_ya_ad1_1)) ne_e_ya ne_t_ya) (by decide) (by decide) rfl rfl (by decide) (by decide) rfl pd_28Ljava2flang2fCharSequence3b29V rfl rfl rfl (Nat.le_of_ble_eq_true rfl) rfl ?_
        rintro h29 v29 ⟨rfl, K29, Fc29_0, Fc29_1, Fc29_2, Fc29_3, Fc29_4, Fc29_5, Fc29_6⟩
        have X30 : Ext h0 h29 := OwnW.ext_keep X2 K29 (allS z_o all0)
        have sz31 : n0 ≤ h29.size := Nat.le_trans sz3 K29.1
        show GoB0 l Z n0 OwnW.One1 h29 10 32 270 #[.val (.int p0), .val (.int p1), .val (.long p2), .second, .val (.int p3), .val (.int k), .val (.ref e), .val (.int b), .val (.int n), .val (.int c0), .val (.int c1), .val (.int c2), .val (.int c3), .val (.int c4), .val (.int c5), .val (.int c6), .val (.int c7), .val (.ref ya), .val (.ref o), .unset, .unset, .unset, .unset, .unset] []
        have F32 := (F25.keep K29 (ninS ne_e_o nin0))
        have F33 := (F26.keep K29)
        have F34 := (F27.keep K29 (ninS ne_e_o nin0))
        have F35 := (F28.keep K29 (ninS ne_t_o nin0))
        have F36 := ((Y_by.keep K1 nin0).keep K29 (ninS ne_ya_o nin0))
        exact OwnW.Go.more (by decide) (by decide) (parta4 l Z a0 hw p0 p1 p2 p3 k e b n c0 c1 c2 c3 c4 c5 c6 c7 o ya (((P <<< (b &&& 31)) ||| (f18 k c3))) ((hd + b)) cnt t cs sv h0 h29 n0 sz31 X30 g_o z_o g_ya z_ya Fc29_0 Fc29_1 Fc29_2 Fc29_3 Fc29_4 Fc29_5 Fc29_6 F32 F33 F34 F35 F36 S_CS S_SF ne_e_o ne_t_o ne_ya_o ne_e_ya ne_t_ya hcs hsv hk hb (own_Is3 hk hI hv hlt hc257) (own_Ys (i := 3) hk hI hY hlt))
      ·
        have F37 := (E_o.keep K1)
        have F38 := (F_al.keep K1 nin0)
        have F39 := (F_enc.keep K1 nin0)
        have F40 := (F_P.keep K1 nin0)
        have F41 := (F_hd.keep K1 nin0)
        have F42 := (F_by.keep K1 nin0)
        have F43 := (F_cnt.keep K1 nin0)
        have F44 := (F_b.keep K1 nin0)
        have F45 := (E_e.keep K1)
        have F46 := (F_t.keep K1 nin0)
        have F47 := (T_t.keep K1 nin0)
        have F48 := (Y_by.keep K1 nin0)
        refine OwnW.callV (a0 := a0) (pc' := 270) (W := 0) (k' := 10) (n' := 32) (argsL := [(.ref ad1_0)]) (rest := []) at_267 (hw _ (List.mem_of_getElem? (i := 48) rfl)) (hw _ (List.mem_of_getElem? (i := 49) rfl)) (hw _ (List.mem_of_getElem? (i := 51) rfl)) (hw _ (List.mem_of_getElem? (i := 50) rfl)) (hw _ (List.mem_of_getElem? (i := 11) rfl)) (hw _ (List.mem_of_getElem? (i := 52) rfl)) (by decide) F37 (rm8aa l Z a0 hw o ad1_0 cs ad1_1 kc1_0 (nar .byte (c3.toInt8.toInt32)) sv c3 P hd cnt e b k t ya h1 n0 sz3 g_o g_ya F37 F38 F39 F40 F41 F42 F43 Fc1_0 Fc1_2 Fc1_1 Fc1_3 (S_CS.ext X2) (S_SF.ext X2) F44 F45 F46 F47 F48 hcs hsv (own_ch (own_c3 hb)) (own_c3 hb).1 hv hlt (own_cnt hk hY) (Ne.symm (Nat.ne_of_lt lt_o_ad1_0)) (Ne.symm (Nat.ne_of_lt lt_o_ad1_1)) ne_e_o ne_t_o ne_ya_o (Ne.symm (Nat.ne_of_lt lt_ya_ad1_0)) (Ne.symm (Nat.ne_of_lt lt_ya_ad1_1)) ne_e_ya ne_t_ya) (by decide) (by decide) rfl rfl (by decide) (by decide) rfl pd_28Ljava2flang2fCharSequence3b29V rfl rfl rfl (Nat.le_of_ble_eq_true rfl) rfl ?_
        rintro h49 v49 ⟨rfl, K49, Fc49_0, Fc49_1, Fc49_2, Fc49_3, Fc49_4, Fc49_5, Fc49_6, Fc49_7⟩
        have X50 : Ext h0 h49 := OwnW.ext_keep X2 K49 (allS z_o (allS z_ya all0))
        have sz51 : n0 ≤ h49.size := Nat.le_trans sz3 K49.1
        show GoB0 l Z n0 OwnW.One1 h49 10 32 270 #[.val (.int p0), .val (.int p1), .val (.long p2), .second, .val (.int p3), .val (.int k), .val (.ref e), .val (.int b), .val (.int n), .val (.int c0), .val (.int c1), .val (.int c2), .val (.int c3), .val (.int c4), .val (.int c5), .val (.int c6), .val (.int c7), .val (.ref ya), .val (.ref o), .unset, .unset, .unset, .unset, .unset] []
        have F52 := (F44.keep K49 (ninS ne_e_o (ninS ne_e_ya nin0)))
        have F53 := (F45.keep K49)
        have F54 := (F46.keep K49 (ninS ne_e_o (ninS ne_e_ya nin0)))
        have F55 := (F47.keep K49 (ninS ne_t_o (ninS ne_t_ya nin0)))
        exact OwnW.Go.more (by decide) (by decide) (parta4 l Z a0 hw p0 p1 p2 p3 k e b n c0 c1 c2 c3 c4 c5 c6 c7 o ya ((((P <<< (b &&& 31)) ||| (f18 k c3)) &&& (((1 : Int32) <<< (((hd + b) - (8 : Int32)) &&& 31)) - (1 : Int32)))) (((hd + b) - (8 : Int32))) ((cnt + (1 : Int32))) t cs sv h0 h49 n0 sz51 X50 g_o z_o g_ya z_ya Fc49_0 Fc49_1 Fc49_2 Fc49_3 Fc49_4 Fc49_5 Fc49_6 F52 F53 F54 F55 Fc49_7 S_CS S_SF ne_e_o ne_t_o ne_ya_o ne_e_ya ne_t_ya hcs hsv hk hb (own_Il3 hk hI hv hlt hc257) (own_Yl (i := 3) hk hI hY hlt))
  ·
    refine OwnW.icmpY (pc' := 270) at_257 (flt hc257).2.2.2 (by decide) (by decide) ?_
    refine OwnW.iload (pc' := 272) at_270 rfl rfl ?_
    refine OwnW.iconst (pc' := 273) (v := (4 : Int32)) at_272 rfl rfl ?_
    refine OwnW.icmpY (pc' := 286) at_273 (flt (own_nlt hc257 (by decide))).2.2.2 (by decide) (by decide) ?_
    refine OwnW.iload (pc' := 288) at_286 rfl rfl ?_
    refine OwnW.iconst (pc' := 289) (v := (5 : Int32)) at_288 rfl rfl ?_
    refine OwnW.icmpY (pc' := 302) at_289 (flt (own_nlt hc257 (by decide))).2.2.2 (by decide) (by decide) ?_
    refine OwnW.iload (pc' := 304) at_302 rfl rfl ?_
    refine OwnW.bipush (pc' := 306) (v := (6 : Int32)) at_304 rfl rfl ?_
    refine OwnW.icmpY (pc' := 319) at_306 (flt (own_nlt hc257 (by decide))).2.2.2 (by decide) (by decide) ?_
    refine OwnW.iload (pc' := 321) at_319 rfl rfl ?_
    refine OwnW.bipush (pc' := 323) (v := (7 : Int32)) at_321 rfl rfl ?_
    refine OwnW.icmpY (pc' := 336) at_323 (flt (own_nlt hc257 (by decide))).2.2.2 (by decide) (by decide) ?_
    exact OwnW.Go.more (by decide) (by decide) (tailG l Z a0 hw p0 p1 p2 p3 k e b n c0 c1 c2 c3 c4 c5 c6 c7 o ((Value.ref ya)) P hd cs sv h0 hc n0 Z0 XB E_o F_al F_enc F_P F_hd F_b S_CS S_SF hk (own_Iend hI hc257))
set_option maxRecDepth 65536 in
set_option maxHeartbeats 400000000 in
theorem partz2 (l : Launch) (Z : State) (a0 : Array Value) (hw : ∀ d ∈ tables_1, d.before a0 Z = true) (p0 : Int32) (p1 : Int32) (p2 : Int64) (p3 : Int32) (k : Int32) (e : Addr) (b : Int32) (n : Int32) (c0 : Int32) (c1 : Int32) (c2 : Int32) (c3 : Int32) (c4 : Int32) (c5 : Int32) (c6 : Int32) (c7 : Int32) (o : Addr) (yv : Value) (cs : Int32) (sv : Value) (h0 hc : Heap) (n0 : Nat) (Z0 : n0 ≤ hc.size) (XB : Ext h0 hc) (g_o : n0 ≤ o) (z_o : h0.size ≤ o) (E_o : Exa Z hc o "com/example/plumbline/plumbline/BaseEncoding$Reading") (F_al : Fld Z hc o "com/example/plumbline/plumbline/BaseEncoding$Reading" "inAlphabet" "Z" (.int (0 : Int32))) (S_CS : Sta Z h0 "java/lang/String" "COMPACT_STRINGS" "Z" (.int cs)) (S_SF : Sta Z h0 "jdk/internal/util/Preconditions" "SIOOBE_FORMATTER" "Ljava/util/function/BiFunction;" sv) (hcs : ¬ cs = (0 : Int32)) (hsv : sv.isRef = true) (hk : own_K k b) (hb : own_C c0 c1 c2 c3 c4 c5 c6 c7) (hB : own_B k n c0 c1 c2 c3 c4 c5 c6 c7) :
    GoB0 l Z n0 OwnW.One1 hc 6 22 238 #[.val (.int p0), .val (.int p1), .val (.long p2), .second, .val (.int p3), .val (.int k), .val (.ref e), .val (.int b), .val (.int n), .val (.int c0), .val (.int c1), .val (.int c2), .val (.int c3), .val (.int c4), .val (.int c5), .val (.int c6), .val (.int c7), .val yv, .val (.ref o), .unset, .unset, .unset, .unset, .unset] [] := by
  refine OwnW.iload (pc' := 240) at_238 rfl rfl ?_
  refine OwnW.iconst (pc' := 241) (v := (2 : Int32)) at_240 rfl rfl ?_
  by_cases hc241 : (2 : Int32) < n
  ·
    refine OwnW.icmpN (pc' := 244) at_241 (tlt hc241).2.2.2 rfl ?_
    refine OwnW.aload (pc' := 246) at_244 rfl (rfl) rfl ?_
    refine OwnW.iload (pc' := 248) at_246 rfl rfl ?_
    refine OwnW.callS (a0 := a0) (pc' := 251) (W := 1) (k' := 8) (n' := 27) (argsL := [(.int c2)]) (rest := [(.ref o)]) at_248 (hw _ (List.mem_of_getElem? (i := 24) rfl)) (hw _ (List.mem_of_getElem? (i := 25) rfl)) (hw _ (List.mem_of_getElem? (i := 26) rfl)) (hw _ (List.mem_of_getElem? (i := 27) rfl)) (by decide) (rm4 l Z a0 hw c2 cs hc n0 Z0 (S_CS.ext XB) hcs (own_c2 hb).2) (by decide) (by decide) rfl rfl (by decide) (by decide) rfl pd_28C29Ljava2flang2fString3b rfl rfl rfl (Nat.le_of_ble_eq_true rfl) rfl ?_
    rintro h1 v1 ⟨ad1_0, ad1_1, kc1_0, rfl, K1, gl1_0, gl1_1, nn1_0_1, Fc1_0, Fc1_1, Fc1_2, Fc1_3⟩
    have lt_o_ad1_0 : @LT.lt Nat _ o ad1_0 := Nat.lt_of_lt_of_le (E_o).lt gl1_0
    have ge_ad1_0 : n0 ≤ ad1_0 := Nat.le_trans Z0 gl1_0
    have lt_o_ad1_1 : @LT.lt Nat _ o ad1_1 := Nat.lt_of_lt_of_le (E_o).lt gl1_1
    have ge_ad1_1 : n0 ≤ ad1_1 := Nat.le_trans Z0 gl1_1
    have X2 : Ext h0 h1 := OwnW.ext_keep XB K1 all0
    have sz3 : n0 ≤ h1.size := Nat.le_trans Z0 K1.1
    show GoB0 l Z n0 OwnW.One1 h1 8 27 251 #[.val (.int p0), .val (.int p1), .val (.long p2), .second, .val (.int p3), .val (.int k), .val (.ref e), .val (.int b), .val (.int n), .val (.int c0), .val (.int c1), .val (.int c2), .val (.int c3), .val (.int c4), .val (.int c5), .val (.int c6), .val (.int c7), .val yv, .val (.ref o), .unset, .unset, .unset, .unset, .unset] [(.ref ad1_0), (.ref o)]
    have F4 := (E_o.keep K1)
    have F5 := (F_al.keep K1 nin0)
    refine OwnW.callV (a0 := a0) (pc' := 254) (W := 0) (k' := 8) (n' := 27) (argsL := [(.ref ad1_0)]) (rest := []) at_251 (hw _ (List.mem_of_getElem? (i := 48) rfl)) (hw _ (List.mem_of_getElem? (i := 49) rfl)) (hw _ (List.mem_of_getElem? (i := 51) rfl)) (hw _ (List.mem_of_getElem? (i := 50) rfl)) (hw _ (List.mem_of_getElem? (i := 11) rfl)) (hw _ (List.mem_of_getElem? (i := 52) rfl)) (by decide) F4 (rm8z l Z a0 hw o ad1_0 cs ad1_1 kc1_0 (nar .byte (c2.toInt8.toInt32)) sv h1 n0 sz3 g_o F4 F5 Fc1_0 Fc1_2 Fc1_1 Fc1_3 (S_CS.ext X2) (S_SF.ext X2) hcs hsv) (by decide) (by decide) rfl rfl (by decide) (by decide) rfl pd_28Ljava2flang2fCharSequence3b29V rfl rfl rfl (Nat.le_of_ble_eq_true rfl) rfl ?_
    rintro h6 v6 ⟨rfl, K6, Fc6_0, Fc6_1⟩
    have X7 : Ext h0 h6 := OwnW.ext_keep X2 K6 (allS z_o all0)
    have sz8 : n0 ≤ h6.size := Nat.le_trans sz3 K6.1
    show GoB0 l Z n0 OwnW.One1 h6 8 27 254 #[.val (.int p0), .val (.int p1), .val (.long p2), .second, .val (.int p3), .val (.int k), .val (.ref e), .val (.int b), .val (.int n), .val (.int c0), .val (.int c1), .val (.int c2), .val (.int c3), .val (.int c4), .val (.int c5), .val (.int c6), .val (.int c7), .val yv, .val (.ref o), .unset, .unset, .unset, .unset, .unset] []
    exact OwnW.Go.more (by decide) (by decide) (partz3 l Z a0 hw p0 p1 p2 p3 k e b n c0 c1 c2 c3 c4 c5 c6 c7 o yv cs sv h0 h6 n0 sz8 X7 g_o z_o Fc6_0 Fc6_1 S_CS S_SF hcs hsv hk hb hB)
  ·
    refine OwnW.icmpY (pc' := 254) at_241 (flt hc241).2.2.2 (by decide) (by decide) ?_
    refine OwnW.iload (pc' := 256) at_254 rfl rfl ?_
    refine OwnW.iconst (pc' := 257) (v := (3 : Int32)) at_256 rfl rfl ?_
    refine OwnW.icmpY (pc' := 270) at_257 (flt (own_nlt hc241 (by decide))).2.2.2 (by decide) (by decide) ?_
    refine OwnW.iload (pc' := 272) at_270 rfl rfl ?_
    refine OwnW.iconst (pc' := 273) (v := (4 : Int32)) at_272 rfl rfl ?_
    refine OwnW.icmpY (pc' := 286) at_273 (flt (own_nlt hc241 (by decide))).2.2.2 (by decide) (by decide) ?_
    refine OwnW.iload (pc' := 288) at_286 rfl rfl ?_
    refine OwnW.iconst (pc' := 289) (v := (5 : Int32)) at_288 rfl rfl ?_
    refine OwnW.icmpY (pc' := 302) at_289 (flt (own_nlt hc241 (by decide))).2.2.2 (by decide) (by decide) ?_
    refine OwnW.iload (pc' := 304) at_302 rfl rfl ?_
    refine OwnW.bipush (pc' := 306) (v := (6 : Int32)) at_304 rfl rfl ?_
    refine OwnW.icmpY (pc' := 319) at_306 (flt (own_nlt hc241 (by decide))).2.2.2 (by decide) (by decide) ?_
    refine OwnW.iload (pc' := 321) at_319 rfl rfl ?_
    refine OwnW.bipush (pc' := 323) (v := (7 : Int32)) at_321 rfl rfl ?_
    refine OwnW.icmpY (pc' := 336) at_323 (flt (own_nlt hc241 (by decide))).2.2.2 (by decide) (by decide) ?_
    exact OwnW.Go.more (by decide) (by decide) (tailZ l Z a0 hw p0 p1 p2 p3 k e b n c0 c1 c2 c3 c4 c5 c6 c7 o yv cs sv h0 hc n0 Z0 XB E_o F_al S_CS S_SF hk hB)
set_option maxRecDepth 65536 in
set_option maxHeartbeats 400000000 in
theorem partn2 (l : Launch) (Z : State) (a0 : Array Value) (hw : ∀ d ∈ tables_1, d.before a0 Z = true) (p0 : Int32) (p1 : Int32) (p2 : Int64) (p3 : Int32) (k : Int32) (e : Addr) (b : Int32) (n : Int32) (c0 : Int32) (c1 : Int32) (c2 : Int32) (c3 : Int32) (c4 : Int32) (c5 : Int32) (c6 : Int32) (c7 : Int32) (o : Addr) (P : Int32) (hd : Int32) (cnt : Int32) (t : Addr) (cs : Int32) (sv : Value) (h0 hc : Heap) (n0 : Nat) (Z0 : n0 ≤ hc.size) (XB : Ext h0 hc) (g_o : n0 ≤ o) (z_o : h0.size ≤ o) (E_o : Exa Z hc o "com/example/plumbline/plumbline/BaseEncoding$Reading") (F_al : Fld Z hc o "com/example/plumbline/plumbline/BaseEncoding$Reading" "inAlphabet" "Z" (.int (1 : Int32))) (F_enc : Fld Z hc o "com/example/plumbline/plumbline/BaseEncoding$Reading" "encoding" "Lcom/example/plumbline/plumbline/BaseEncoding;" (.ref e)) (F_P : Fld Z hc o "com/example/plumbline/plumbline/BaseEncoding$Reading" "pending" "I" (.int P)) (F_hd : Fld Z hc o "com/example/plumbline/plumbline/BaseEncoding$Reading" "held" "I" (.int hd)) (F_by : Fld Z hc o "com/example/plumbline/plumbline/BaseEncoding$Reading" "bytes" "[B" .null) (F_cnt : Fld Z hc o "com/example/plumbline/plumbline/BaseEncoding$Reading" "count" "I" (.int cnt)) (F_b : Fld Z hc e "com/example/plumbline/plumbline/BaseEncoding" "bits" "I" (.int b)) (E_e : Exa Z hc e "com/example/plumbline/plumbline/BaseEncoding") (F_t : Fld Z hc e "com/example/plumbline/plumbline/BaseEncoding" "values" "[I" (.ref t)) (T_t : Tab Z hc t k) (S_CS : Sta Z h0 "java/lang/String" "COMPACT_STRINGS" "Z" (.int cs)) (S_SF : Sta Z h0 "jdk/internal/util/Preconditions" "SIOOBE_FORMATTER" "Ljava/util/function/BiFunction;" sv) (ne_e_o : e ≠ o) (ne_t_o : t ≠ o) (hcs : ¬ cs = (0 : Int32)) (hsv : sv.isRef = true) (hk : own_K k b) (hb : own_C c0 c1 c2 c3 c4 c5 c6 c7) (hI : own_I 2 k b n hd P c0 c1 c2 c3 c4 c5 c6 c7) :
    GoB0 l Z n0 OwnW.One1 hc 6 22 238 #[.val (.int p0), .val (.int p1), .val (.long p2), .second, .val (.int p3), .val (.int k), .val (.ref e), .val (.int b), .val (.int n), .val (.int c0), .val (.int c1), .val (.int c2), .val (.int c3), .val (.int c4), .val (.int c5), .val (.int c6), .val (.int c7), .val .null, .val (.ref o), .unset, .unset, .unset, .unset, .unset] [] := by
  refine OwnW.iload (pc' := 240) at_238 rfl rfl ?_
  refine OwnW.iconst (pc' := 241) (v := (2 : Int32)) at_240 rfl rfl ?_
  by_cases hc241 : (2 : Int32) < n
  ·
    refine OwnW.icmpN (pc' := 244) at_241 (tlt hc241).2.2.2 rfl ?_
    refine OwnW.aload (pc' := 246) at_244 rfl (rfl) rfl ?_
    refine OwnW.iload (pc' := 248) at_246 rfl rfl ?_
    refine OwnW.callS (a0 := a0) (pc' := 251) (W := 1) (k' := 8) (n' := 27) (argsL := [(.int c2)]) (rest := [(.ref o)]) at_248 (hw _ (List.mem_of_getElem? (i := 24) rfl)) (hw _ (List.mem_of_getElem? (i := 25) rfl)) (hw _ (List.mem_of_getElem? (i := 26) rfl)) (hw _ (List.mem_of_getElem? (i := 27) rfl)) (by decide) (rm4 l Z a0 hw c2 cs hc n0 Z0 (S_CS.ext XB) hcs (own_c2 hb).2) (by decide) (by decide) rfl rfl (by decide) (by decide) rfl pd_28C29Ljava2flang2fString3b rfl rfl rfl (Nat.le_of_ble_eq_true rfl) rfl ?_
    rintro h1 v1 ⟨ad1_0, ad1_1, kc1_0, rfl, K1, gl1_0, gl1_1, nn1_0_1, Fc1_0, Fc1_1, Fc1_2, Fc1_3⟩
    have lt_o_ad1_0 : @LT.lt Nat _ o ad1_0 := Nat.lt_of_lt_of_le (E_o).lt gl1_0
    have lt_e_ad1_0 : @LT.lt Nat _ e ad1_0 := Nat.lt_of_lt_of_le (E_e).lt gl1_0
    have lt_t_ad1_0 : @LT.lt Nat _ t ad1_0 := Nat.lt_of_lt_of_le (T_t).lt gl1_0
    have ge_ad1_0 : n0 ≤ ad1_0 := Nat.le_trans Z0 gl1_0
    have lt_o_ad1_1 : @LT.lt Nat _ o ad1_1 := Nat.lt_of_lt_of_le (E_o).lt gl1_1
    have lt_e_ad1_1 : @LT.lt Nat _ e ad1_1 := Nat.lt_of_lt_of_le (E_e).lt gl1_1
    have lt_t_ad1_1 : @LT.lt Nat _ t ad1_1 := Nat.lt_of_lt_of_le (T_t).lt gl1_1
    have ge_ad1_1 : n0 ≤ ad1_1 := Nat.le_trans Z0 gl1_1
    have X2 : Ext h0 h1 := OwnW.ext_keep XB K1 all0
    have sz3 : n0 ≤ h1.size := Nat.le_trans Z0 K1.1
    show GoB0 l Z n0 OwnW.One1 h1 8 27 251 #[.val (.int p0), .val (.int p1), .val (.long p2), .second, .val (.int p3), .val (.int k), .val (.ref e), .val (.int b), .val (.int n), .val (.int c0), .val (.int c1), .val (.int c2), .val (.int c3), .val (.int c4), .val (.int c5), .val (.int c6), .val (.int c7), .val .null, .val (.ref o), .unset, .unset, .unset, .unset, .unset] [(.ref ad1_0), (.ref o)]
    by_cases hv : (f18 k c2) < (0 : Int32)
    ·
      have F4 := (E_o.keep K1)
      have F5 := (F_al.keep K1 nin0)
      have F6 := (F_enc.keep K1 nin0)
      have F7 := (F_P.keep K1 nin0)
      have F8 := (F_hd.keep K1 nin0)
      have F9 := (F_by.keep K1 nin0)
      have F10 := (F_cnt.keep K1 nin0)
      have F11 := (F_b.keep K1 nin0)
      have F12 := (E_e.keep K1)
      have F13 := (F_t.keep K1 nin0)
      have F14 := (T_t.keep K1 nin0)
      refine OwnW.callV (a0 := a0) (pc' := 254) (W := 0) (k' := 8) (n' := 27) (argsL := [(.ref ad1_0)]) (rest := []) at_251 (hw _ (List.mem_of_getElem? (i := 48) rfl)) (hw _ (List.mem_of_getElem? (i := 49) rfl)) (hw _ (List.mem_of_getElem? (i := 51) rfl)) (hw _ (List.mem_of_getElem? (i := 50) rfl)) (hw _ (List.mem_of_getElem? (i := 11) rfl)) (hw _ (List.mem_of_getElem? (i := 52) rfl)) (by decide) F4 (rm8xn l Z a0 hw o ad1_0 cs ad1_1 kc1_0 (nar .byte (c2.toInt8.toInt32)) sv c2 P hd cnt e b k t h1 n0 sz3 g_o F4 F5 F6 F7 F8 F9 F10 Fc1_0 Fc1_2 Fc1_1 Fc1_3 (S_CS.ext X2) (S_SF.ext X2) F11 F12 F13 F14 hcs hsv (own_ch (own_c2 hb)) (own_c2 hb).1 hv (Ne.symm (Nat.ne_of_lt lt_o_ad1_0)) (Ne.symm (Nat.ne_of_lt lt_o_ad1_1)) ne_e_o ne_t_o) (by decide) (by decide) rfl rfl (by decide) (by decide) rfl pd_28Ljava2flang2fCharSequence3b29V rfl rfl rfl (Nat.le_of_ble_eq_true rfl) rfl ?_
      rintro h15 v15 ⟨rfl, K15, Fc15_0, Fc15_1⟩
      have X16 : Ext h0 h15 := OwnW.ext_keep X2 K15 (allS z_o all0)
      have sz17 : n0 ≤ h15.size := Nat.le_trans sz3 K15.1
      show GoB0 l Z n0 OwnW.One1 h15 8 27 254 #[.val (.int p0), .val (.int p1), .val (.long p2), .second, .val (.int p3), .val (.int k), .val (.ref e), .val (.int b), .val (.int n), .val (.int c0), .val (.int c1), .val (.int c2), .val (.int c3), .val (.int c4), .val (.int c5), .val (.int c6), .val (.int c7), .val .null, .val (.ref o), .unset, .unset, .unset, .unset, .unset] []
      exact OwnW.Go.more (by decide) (by decide) (partz3 l Z a0 hw p0 p1 p2 p3 k e b n c0 c1 c2 c3 c4 c5 c6 c7 o Value.null cs sv h0 h15 n0 sz17 X16 g_o z_o Fc15_0 Fc15_1 S_CS S_SF hcs hsv hk hb (own_B2 hv hc241))
    ·
      by_cases hlt : (hd + b) < (8 : Int32)
      ·
        have F18 := (E_o.keep K1)
        have F19 := (F_al.keep K1 nin0)
        have F20 := (F_enc.keep K1 nin0)
        have F21 := (F_P.keep K1 nin0)
        have F22 := (F_hd.keep K1 nin0)
        have F23 := (F_by.keep K1 nin0)
        have F24 := (F_cnt.keep K1 nin0)
        have F25 := (F_b.keep K1 nin0)
        have F26 := (E_e.keep K1)
        have F27 := (F_t.keep K1 nin0)
        have F28 := (T_t.keep K1 nin0)
        refine OwnW.callV (a0 := a0) (pc' := 254) (W := 0) (k' := 8) (n' := 27) (argsL := [(.ref ad1_0)]) (rest := []) at_251 (hw _ (List.mem_of_getElem? (i := 48) rfl)) (hw _ (List.mem_of_getElem? (i := 49) rfl)) (hw _ (List.mem_of_getElem? (i := 51) rfl)) (hw _ (List.mem_of_getElem? (i := 50) rfl)) (hw _ (List.mem_of_getElem? (i := 11) rfl)) (hw _ (List.mem_of_getElem? (i := 52) rfl)) (by decide) F18 (rm8sn l Z a0 hw o ad1_0 cs ad1_1 kc1_0 (nar .byte (c2.toInt8.toInt32)) sv c2 P hd cnt e b k t h1 n0 sz3 g_o F18 F19 F20 F21 F22 F23 F24 Fc1_0 Fc1_2 Fc1_1 Fc1_3 (S_CS.ext X2) (S_SF.ext X2) F25 F26 F27 F28 hcs hsv (own_ch (own_c2 hb)) (own_c2 hb).1 hv hlt (Ne.symm (Nat.ne_of_lt lt_o_ad1_0)) (Ne.symm (Nat.ne_of_lt lt_o_ad1_1)) ne_e_o ne_t_o) (by decide) (by decide) rfl rfl (by decide) (by decide) rfl pd_28Ljava2flang2fCharSequence3b29V rfl rfl rfl (Nat.le_of_ble_eq_true rfl) rfl ?_
        rintro h29 v29 ⟨rfl, K29, Fc29_0, Fc29_1, Fc29_2, Fc29_3, Fc29_4, Fc29_5, Fc29_6⟩
        have X30 : Ext h0 h29 := OwnW.ext_keep X2 K29 (allS z_o all0)
        have sz31 : n0 ≤ h29.size := Nat.le_trans sz3 K29.1
        show GoB0 l Z n0 OwnW.One1 h29 8 27 254 #[.val (.int p0), .val (.int p1), .val (.long p2), .second, .val (.int p3), .val (.int k), .val (.ref e), .val (.int b), .val (.int n), .val (.int c0), .val (.int c1), .val (.int c2), .val (.int c3), .val (.int c4), .val (.int c5), .val (.int c6), .val (.int c7), .val .null, .val (.ref o), .unset, .unset, .unset, .unset, .unset] []
        have F32 := (F25.keep K29 (ninS ne_e_o nin0))
        have F33 := (F26.keep K29)
        have F34 := (F27.keep K29 (ninS ne_e_o nin0))
        have F35 := (F28.keep K29 (ninS ne_t_o nin0))
        exact OwnW.Go.more (by decide) (by decide) (partn3 l Z a0 hw p0 p1 p2 p3 k e b n c0 c1 c2 c3 c4 c5 c6 c7 o (((P <<< (b &&& 31)) ||| (f18 k c2))) ((hd + b)) cnt t cs sv h0 h29 n0 sz31 X30 g_o z_o Fc29_0 Fc29_1 Fc29_2 Fc29_3 Fc29_4 Fc29_5 Fc29_6 F32 F33 F34 F35 S_CS S_SF ne_e_o ne_t_o hcs hsv hk hb (own_Is2 hk hI hv hlt hc241))
      ·
        have F36 := (E_o.keep K1)
        have F37 := (F_al.keep K1 nin0)
        have F38 := (F_enc.keep K1 nin0)
        have F39 := (F_P.keep K1 nin0)
        have F40 := (F_hd.keep K1 nin0)
        have F41 := (F_by.keep K1 nin0)
        have F42 := (F_cnt.keep K1 nin0)
        have F43 := (F_b.keep K1 nin0)
        have F44 := (E_e.keep K1)
        have F45 := (F_t.keep K1 nin0)
        have F46 := (T_t.keep K1 nin0)
        refine OwnW.callV (a0 := a0) (pc' := 254) (W := 0) (k' := 8) (n' := 27) (argsL := [(.ref ad1_0)]) (rest := []) at_251 (hw _ (List.mem_of_getElem? (i := 48) rfl)) (hw _ (List.mem_of_getElem? (i := 49) rfl)) (hw _ (List.mem_of_getElem? (i := 51) rfl)) (hw _ (List.mem_of_getElem? (i := 50) rfl)) (hw _ (List.mem_of_getElem? (i := 11) rfl)) (hw _ (List.mem_of_getElem? (i := 52) rfl)) (by decide) F36 (rm8nn l Z a0 hw o ad1_0 cs ad1_1 kc1_0 (nar .byte (c2.toInt8.toInt32)) sv c2 P hd cnt e b k t h1 n0 sz3 g_o F36 F37 F38 F39 F40 F41 F42 Fc1_0 Fc1_2 Fc1_1 Fc1_3 (S_CS.ext X2) (S_SF.ext X2) F43 F44 F45 F46 hcs hsv (own_ch (own_c2 hb)) (own_c2 hb).1 hv hlt (Ne.symm (Nat.ne_of_lt lt_o_ad1_0)) (Ne.symm (Nat.ne_of_lt lt_o_ad1_1)) ne_e_o ne_t_o) (by decide) (by decide) rfl rfl (by decide) (by decide) rfl pd_28Ljava2flang2fCharSequence3b29V rfl rfl rfl (Nat.le_of_ble_eq_true rfl) rfl ?_
        rintro h47 v47 ⟨rfl, K47, Fc47_0, Fc47_1, Fc47_2, Fc47_3, Fc47_4, Fc47_5, Fc47_6⟩
        have X48 : Ext h0 h47 := OwnW.ext_keep X2 K47 (allS z_o all0)
        have sz49 : n0 ≤ h47.size := Nat.le_trans sz3 K47.1
        show GoB0 l Z n0 OwnW.One1 h47 8 27 254 #[.val (.int p0), .val (.int p1), .val (.long p2), .second, .val (.int p3), .val (.int k), .val (.ref e), .val (.int b), .val (.int n), .val (.int c0), .val (.int c1), .val (.int c2), .val (.int c3), .val (.int c4), .val (.int c5), .val (.int c6), .val (.int c7), .val .null, .val (.ref o), .unset, .unset, .unset, .unset, .unset] []
        have F50 := (F43.keep K47 (ninS ne_e_o nin0))
        have F51 := (F44.keep K47)
        have F52 := (F45.keep K47 (ninS ne_e_o nin0))
        have F53 := (F46.keep K47 (ninS ne_t_o nin0))
        exact OwnW.Go.more (by decide) (by decide) (partn3 l Z a0 hw p0 p1 p2 p3 k e b n c0 c1 c2 c3 c4 c5 c6 c7 o ((((P <<< (b &&& 31)) ||| (f18 k c2)) &&& (((1 : Int32) <<< (((hd + b) - (8 : Int32)) &&& 31)) - (1 : Int32)))) (((hd + b) - (8 : Int32))) cnt t cs sv h0 h47 n0 sz49 X48 g_o z_o Fc47_0 Fc47_1 Fc47_2 Fc47_3 Fc47_4 Fc47_5 Fc47_6 F50 F51 F52 F53 S_CS S_SF ne_e_o ne_t_o hcs hsv hk hb (own_Il2 hk hI hv hlt hc241))
  ·
    refine OwnW.icmpY (pc' := 254) at_241 (flt hc241).2.2.2 (by decide) (by decide) ?_
    refine OwnW.iload (pc' := 256) at_254 rfl rfl ?_
    refine OwnW.iconst (pc' := 257) (v := (3 : Int32)) at_256 rfl rfl ?_
    refine OwnW.icmpY (pc' := 270) at_257 (flt (own_nlt hc241 (by decide))).2.2.2 (by decide) (by decide) ?_
    refine OwnW.iload (pc' := 272) at_270 rfl rfl ?_
    refine OwnW.iconst (pc' := 273) (v := (4 : Int32)) at_272 rfl rfl ?_
    refine OwnW.icmpY (pc' := 286) at_273 (flt (own_nlt hc241 (by decide))).2.2.2 (by decide) (by decide) ?_
    refine OwnW.iload (pc' := 288) at_286 rfl rfl ?_
    refine OwnW.iconst (pc' := 289) (v := (5 : Int32)) at_288 rfl rfl ?_
    refine OwnW.icmpY (pc' := 302) at_289 (flt (own_nlt hc241 (by decide))).2.2.2 (by decide) (by decide) ?_
    refine OwnW.iload (pc' := 304) at_302 rfl rfl ?_
    refine OwnW.bipush (pc' := 306) (v := (6 : Int32)) at_304 rfl rfl ?_
    refine OwnW.icmpY (pc' := 319) at_306 (flt (own_nlt hc241 (by decide))).2.2.2 (by decide) (by decide) ?_
    refine OwnW.iload (pc' := 321) at_319 rfl rfl ?_
    refine OwnW.bipush (pc' := 323) (v := (7 : Int32)) at_321 rfl rfl ?_
    refine OwnW.icmpY (pc' := 336) at_323 (flt (own_nlt hc241 (by decide))).2.2.2 (by decide) (by decide) ?_
    exact OwnW.Go.more (by decide) (by decide) (tailG l Z a0 hw p0 p1 p2 p3 k e b n c0 c1 c2 c3 c4 c5 c6 c7 o Value.null P hd cs sv h0 hc n0 Z0 XB E_o F_al F_enc F_P F_hd F_b S_CS S_SF hk (own_Iend hI hc241))
set_option maxRecDepth 65536 in
set_option maxHeartbeats 400000000 in
theorem parta2 (l : Launch) (Z : State) (a0 : Array Value) (hw : ∀ d ∈ tables_1, d.before a0 Z = true) (p0 : Int32) (p1 : Int32) (p2 : Int64) (p3 : Int32) (k : Int32) (e : Addr) (b : Int32) (n : Int32) (c0 : Int32) (c1 : Int32) (c2 : Int32) (c3 : Int32) (c4 : Int32) (c5 : Int32) (c6 : Int32) (c7 : Int32) (o : Addr) (ya : Addr) (P : Int32) (hd : Int32) (cnt : Int32) (t : Addr) (cs : Int32) (sv : Value) (h0 hc : Heap) (n0 : Nat) (Z0 : n0 ≤ hc.size) (XB : Ext h0 hc) (g_o : n0 ≤ o) (z_o : h0.size ≤ o) (g_ya : n0 ≤ ya) (z_ya : h0.size ≤ ya) (E_o : Exa Z hc o "com/example/plumbline/plumbline/BaseEncoding$Reading") (F_al : Fld Z hc o "com/example/plumbline/plumbline/BaseEncoding$Reading" "inAlphabet" "Z" (.int (1 : Int32))) (F_enc : Fld Z hc o "com/example/plumbline/plumbline/BaseEncoding$Reading" "encoding" "Lcom/example/plumbline/plumbline/BaseEncoding;" (.ref e)) (F_P : Fld Z hc o "com/example/plumbline/plumbline/BaseEncoding$Reading" "pending" "I" (.int P)) (F_hd : Fld Z hc o "com/example/plumbline/plumbline/BaseEncoding$Reading" "held" "I" (.int hd)) (F_by : Fld Z hc o "com/example/plumbline/plumbline/BaseEncoding$Reading" "bytes" "[B" (.ref ya)) (F_cnt : Fld Z hc o "com/example/plumbline/plumbline/BaseEncoding$Reading" "count" "I" (.int cnt)) (F_b : Fld Z hc e "com/example/plumbline/plumbline/BaseEncoding" "bits" "I" (.int b)) (E_e : Exa Z hc e "com/example/plumbline/plumbline/BaseEncoding") (F_t : Fld Z hc e "com/example/plumbline/plumbline/BaseEncoding" "values" "[I" (.ref t)) (T_t : Tab Z hc t k) (Y_by : Byt Z hc ya) (S_CS : Sta Z h0 "java/lang/String" "COMPACT_STRINGS" "Z" (.int cs)) (S_SF : Sta Z h0 "jdk/internal/util/Preconditions" "SIOOBE_FORMATTER" "Ljava/util/function/BiFunction;" sv) (ne_e_o : e ≠ o) (ne_t_o : t ≠ o) (ne_ya_o : ya ≠ o) (ne_e_ya : e ≠ ya) (ne_t_ya : t ≠ ya) (hcs : ¬ cs = (0 : Int32)) (hsv : sv.isRef = true) (hk : own_K k b) (hb : own_C c0 c1 c2 c3 c4 c5 c6 c7) (hI : own_I 2 k b n hd P c0 c1 c2 c3 c4 c5 c6 c7) (hY : own_Y 2 b cnt) :
    GoB0 l Z n0 OwnW.One1 hc 6 22 238 #[.val (.int p0), .val (.int p1), .val (.long p2), .second, .val (.int p3), .val (.int k), .val (.ref e), .val (.int b), .val (.int n), .val (.int c0), .val (.int c1), .val (.int c2), .val (.int c3), .val (.int c4), .val (.int c5), .val (.int c6), .val (.int c7), .val (.ref ya), .val (.ref o), .unset, .unset, .unset, .unset, .unset] [] := by
  refine OwnW.iload (pc' := 240) at_238 rfl rfl ?_
  refine OwnW.iconst (pc' := 241) (v := (2 : Int32)) at_240 rfl rfl ?_
  by_cases hc241 : (2 : Int32) < n
  ·
    refine OwnW.icmpN (pc' := 244) at_241 (tlt hc241).2.2.2 rfl ?_
    refine OwnW.aload (pc' := 246) at_244 rfl (rfl) rfl ?_
    refine OwnW.iload (pc' := 248) at_246 rfl rfl ?_
    refine OwnW.callS (a0 := a0) (pc' := 251) (W := 1) (k' := 8) (n' := 27) (argsL := [(.int c2)]) (rest := [(.ref o)]) at_248 (hw _ (List.mem_of_getElem? (i := 24) rfl)) (hw _ (List.mem_of_getElem? (i := 25) rfl)) (hw _ (List.mem_of_getElem? (i := 26) rfl)) (hw _ (List.mem_of_getElem? (i := 27) rfl)) (by decide) (rm4 l Z a0 hw c2 cs hc n0 Z0 (S_CS.ext XB) hcs (own_c2 hb).2) (by decide) (by decide) rfl rfl (by decide) (by decide) rfl pd_28C29Ljava2flang2fString3b rfl rfl rfl (Nat.le_of_ble_eq_true rfl) rfl ?_
    rintro h1 v1 ⟨ad1_0, ad1_1, kc1_0, rfl, K1, gl1_0, gl1_1, nn1_0_1, Fc1_0, Fc1_1, Fc1_2, Fc1_3⟩
    have lt_o_ad1_0 : @LT.lt Nat _ o ad1_0 := Nat.lt_of_lt_of_le (E_o).lt gl1_0
    have lt_e_ad1_0 : @LT.lt Nat _ e ad1_0 := Nat.lt_of_lt_of_le (E_e).lt gl1_0
    have lt_t_ad1_0 : @LT.lt Nat _ t ad1_0 := Nat.lt_of_lt_of_le (T_t).lt gl1_0
    have lt_ya_ad1_0 : @LT.lt Nat _ ya ad1_0 := Nat.lt_of_lt_of_le (Y_by).lt gl1_0
    have ge_ad1_0 : n0 ≤ ad1_0 := Nat.le_trans Z0 gl1_0
    have lt_o_ad1_1 : @LT.lt Nat _ o ad1_1 := Nat.lt_of_lt_of_le (E_o).lt gl1_1
    have lt_e_ad1_1 : @LT.lt Nat _ e ad1_1 := Nat.lt_of_lt_of_le (E_e).lt gl1_1
    have lt_t_ad1_1 : @LT.lt Nat _ t ad1_1 := Nat.lt_of_lt_of_le (T_t).lt gl1_1
    have lt_ya_ad1_1 : @LT.lt Nat _ ya ad1_1 := Nat.lt_of_lt_of_le (Y_by).lt gl1_1
    have ge_ad1_1 : n0 ≤ ad1_1 := Nat.le_trans Z0 gl1_1
    have X2 : Ext h0 h1 := OwnW.ext_keep XB K1 all0
    have sz3 : n0 ≤ h1.size := Nat.le_trans Z0 K1.1
    show GoB0 l Z n0 OwnW.One1 h1 8 27 251 #[.val (.int p0), .val (.int p1), .val (.long p2), .second, .val (.int p3), .val (.int k), .val (.ref e), .val (.int b), .val (.int n), .val (.int c0), .val (.int c1), .val (.int c2), .val (.int c3), .val (.int c4), .val (.int c5), .val (.int c6), .val (.int c7), .val (.ref ya), .val (.ref o), .unset, .unset, .unset, .unset, .unset] [(.ref ad1_0), (.ref o)]
    by_cases hv : (f18 k c2) < (0 : Int32)
    ·
      have F4 := (E_o.keep K1)
      have F5 := (F_al.keep K1 nin0)
      have F6 := (F_enc.keep K1 nin0)
      have F7 := (F_P.keep K1 nin0)
      have F8 := (F_hd.keep K1 nin0)
      have F9 := (F_by.keep K1 nin0)
      have F10 := (F_cnt.keep K1 nin0)
      have F11 := (F_b.keep K1 nin0)
      have F12 := (E_e.keep K1)
      have F13 := (F_t.keep K1 nin0)
      have F14 := (T_t.keep K1 nin0)
      refine OwnW.callV (a0 := a0) (pc' := 254) (W := 0) (k' := 8) (n' := 27) (argsL := [(.ref ad1_0)]) (rest := []) at_251 (hw _ (List.mem_of_getElem? (i := 48) rfl)) (hw _ (List.mem_of_getElem? (i := 49) rfl)) (hw _ (List.mem_of_getElem? (i := 51) rfl)) (hw _ (List.mem_of_getElem? (i := 50) rfl)) (hw _ (List.mem_of_getElem? (i := 11) rfl)) (hw _ (List.mem_of_getElem? (i := 52) rfl)) (by decide) F4 (rm8xa l Z a0 hw o ad1_0 cs ad1_1 kc1_0 (nar .byte (c2.toInt8.toInt32)) sv c2 P hd cnt e b k t ya h1 n0 sz3 g_o F4 F5 F6 F7 F8 F9 F10 Fc1_0 Fc1_2 Fc1_1 Fc1_3 (S_CS.ext X2) (S_SF.ext X2) F11 F12 F13 F14 hcs hsv (own_ch (own_c2 hb)) (own_c2 hb).1 hv (Ne.symm (Nat.ne_of_lt lt_o_ad1_0)) (Ne.symm (Nat.ne_of_lt lt_o_ad1_1)) ne_e_o ne_t_o ne_ya_o (Ne.symm (Nat.ne_of_lt lt_ya_ad1_0)) (Ne.symm (Nat.ne_of_lt lt_ya_ad1_1)) ne_e_ya ne_t_ya) (by decide) (by decide) rfl rfl (by decide) (by decide) rfl pd_28Ljava2flang2fCharSequence3b29V rfl rfl rfl (Nat.le_of_ble_eq_true rfl) rfl ?_
      rintro h15 v15 ⟨rfl, K15, Fc15_0, Fc15_1⟩
      have X16 : Ext h0 h15 := OwnW.ext_keep X2 K15 (allS z_o all0)
      have sz17 : n0 ≤ h15.size := Nat.le_trans sz3 K15.1
      show GoB0 l Z n0 OwnW.One1 h15 8 27 254 #[.val (.int p0), .val (.int p1), .val (.long p2), .second, .val (.int p3), .val (.int k), .val (.ref e), .val (.int b), .val (.int n), .val (.int c0), .val (.int c1), .val (.int c2), .val (.int c3), .val (.int c4), .val (.int c5), .val (.int c6), .val (.int c7), .val (.ref ya), .val (.ref o), .unset, .unset, .unset, .unset, .unset] []
      exact OwnW.Go.more (by decide) (by decide) (partz3 l Z a0 hw p0 p1 p2 p3 k e b n c0 c1 c2 c3 c4 c5 c6 c7 o ((Value.ref ya)) cs sv h0 h15 n0 sz17 X16 g_o z_o Fc15_0 Fc15_1 S_CS S_SF hcs hsv hk hb (own_B2 hv hc241))
    ·
      by_cases hlt : (hd + b) < (8 : Int32)
      ·
        have F18 := (E_o.keep K1)
        have F19 := (F_al.keep K1 nin0)
        have F20 := (F_enc.keep K1 nin0)
        have F21 := (F_P.keep K1 nin0)
        have F22 := (F_hd.keep K1 nin0)
        have F23 := (F_by.keep K1 nin0)
        have F24 := (F_cnt.keep K1 nin0)
        have F25 := (F_b.keep K1 nin0)
        have F26 := (E_e.keep K1)
        have F27 := (F_t.keep K1 nin0)
        have F28 := (T_t.keep K1 nin0)
        refine OwnW.callV (a0 := a0) (pc' := 254) (W := 0) (k' := 8) (n' := 27) (argsL := [(.ref ad1_0)]) (rest := []) at_251 (hw _ (List.mem_of_getElem? (i := 48) rfl)) (hw _ (List.mem_of_getElem? (i := 49) rfl)) (hw _ (List.mem_of_getElem? (i := 51) rfl)) (hw _ (List.mem_of_getElem? (i := 50) rfl)) (hw _ (List.mem_of_getElem? (i := 11) rfl)) (hw _ (List.mem_of_getElem? (i := 52) rfl)) (by decide) F18 (rm8sa l Z a0 hw o ad1_0 cs ad1_1 kc1_0 (nar .byte (c2.toInt8.toInt32)) sv c2 P hd cnt e b k t ya h1 n0 sz3 g_o F18 F19 F20 F21 F22 F23 F24 Fc1_0 Fc1_2 Fc1_1 Fc1_3 (S_CS.ext X2) (S_SF.ext X2) F25 F26 F27 F28 hcs hsv (own_ch (own_c2 hb)) (own_c2 hb).1 hv hlt (Ne.symm (Nat.ne_of_lt lt_o_ad1_0)) (Ne.symm (Nat.ne_of_lt lt_o_ad1_1)) ne_e_o ne_t_o ne_ya_o (Ne.symm (Nat.ne_of_lt lt_ya_ad1_0)) (Ne.symm (Nat.ne_of_lt lt_ya_ad1_1)) ne_e_ya ne_t_ya) (by decide) (by decide) rfl rfl (by decide) (by decide) rfl pd_28Ljava2flang2fCharSequence3b29V rfl rfl rfl (Nat.le_of_ble_eq_true rfl) rfl ?_
        rintro h29 v29 ⟨rfl, K29, Fc29_0, Fc29_1, Fc29_2, Fc29_3, Fc29_4, Fc29_5, Fc29_6⟩
        have X30 : Ext h0 h29 := OwnW.ext_keep X2 K29 (allS z_o all0)
        have sz31 : n0 ≤ h29.size := Nat.le_trans sz3 K29.1
        show GoB0 l Z n0 OwnW.One1 h29 8 27 254 #[.val (.int p0), .val (.int p1), .val (.long p2), .second, .val (.int p3), .val (.int k), .val (.ref e), .val (.int b), .val (.int n), .val (.int c0), .val (.int c1), .val (.int c2), .val (.int c3), .val (.int c4), .val (.int c5), .val (.int c6), .val (.int c7), .val (.ref ya), .val (.ref o), .unset, .unset, .unset, .unset, .unset] []
        have F32 := (F25.keep K29 (ninS ne_e_o nin0))
        have F33 := (F26.keep K29)
        have F34 := (F27.keep K29 (ninS ne_e_o nin0))
        have F35 := (F28.keep K29 (ninS ne_t_o nin0))
        have F36 := ((Y_by.keep K1 nin0).keep K29 (ninS ne_ya_o nin0))
        exact OwnW.Go.more (by decide) (by decide) (parta3 l Z a0 hw p0 p1 p2 p3 k e b n c0 c1 c2 c3 c4 c5 c6 c7 o ya (((P <<< (b &&& 31)) ||| (f18 k c2))) ((hd + b)) cnt t cs sv h0 h29 n0 sz31 X30 g_o z_o g_ya z_ya Fc29_0 Fc29_1 Fc29_2 Fc29_3 Fc29_4 Fc29_5 Fc29_6 F32 F33 F34 F35 F36 S_CS S_SF ne_e_o ne_t_o ne_ya_o ne_e_ya ne_t_ya hcs hsv hk hb (own_Is2 hk hI hv hlt hc241) (own_Ys (i := 2) hk hI hY hlt))
      ·
        have F37 := (E_o.keep K1)
        have F38 := (F_al.keep K1 nin0)
        have F39 := (F_enc.keep K1 nin0)
        have F40 := (F_P.keep K1 nin0)
        have F41 := (F_hd.keep K1 nin0)
        have F42 := (F_by.keep K1 nin0)
        have F43 := (F_cnt.keep K1 nin0)
        have F44 := (F_b.keep K1 nin0)
        have F45 := (E_e.keep K1)
        have F46 := (F_t.keep K1 nin0)
        have F47 := (T_t.keep K1 nin0)
        have F48 := (Y_by.keep K1 nin0)
        refine OwnW.callV (a0 := a0) (pc' := 254) (W := 0) (k' := 8) (n' := 27) (argsL := [(.ref ad1_0)]) (rest := []) at_251 (hw _ (List.mem_of_getElem? (i := 48) rfl)) (hw _ (List.mem_of_getElem? (i := 49) rfl)) (hw _ (List.mem_of_getElem? (i := 51) rfl)) (hw _ (List.mem_of_getElem? (i := 50) rfl)) (hw _ (List.mem_of_getElem? (i := 11) rfl)) (hw _ (List.mem_of_getElem? (i := 52) rfl)) (by decide) F37 (rm8aa l Z a0 hw o ad1_0 cs ad1_1 kc1_0 (nar .byte (c2.toInt8.toInt32)) sv c2 P hd cnt e b k t ya h1 n0 sz3 g_o g_ya F37 F38 F39 F40 F41 F42 F43 Fc1_0 Fc1_2 Fc1_1 Fc1_3 (S_CS.ext X2) (S_SF.ext X2) F44 F45 F46 F47 F48 hcs hsv (own_ch (own_c2 hb)) (own_c2 hb).1 hv hlt (own_cnt hk hY) (Ne.symm (Nat.ne_of_lt lt_o_ad1_0)) (Ne.symm (Nat.ne_of_lt lt_o_ad1_1)) ne_e_o ne_t_o ne_ya_o (Ne.symm (Nat.ne_of_lt lt_ya_ad1_0)) (Ne.symm (Nat.ne_of_lt lt_ya_ad1_1)) ne_e_ya ne_t_ya) (by decide) (by decide) rfl rfl (by decide) (by decide) rfl pd_28Ljava2flang2fCharSequence3b29V rfl rfl rfl (Nat.le_of_ble_eq_true rfl) rfl ?_
        rintro h49 v49 ⟨rfl, K49, Fc49_0, Fc49_1, Fc49_2, Fc49_3, Fc49_4, Fc49_5, Fc49_6, Fc49_7⟩
        have X50 : Ext h0 h49 := OwnW.ext_keep X2 K49 (allS z_o (allS z_ya all0))
        have sz51 : n0 ≤ h49.size := Nat.le_trans sz3 K49.1
        show GoB0 l Z n0 OwnW.One1 h49 8 27 254 #[.val (.int p0), .val (.int p1), .val (.long p2), .second, .val (.int p3), .val (.int k), .val (.ref e), .val (.int b), .val (.int n), .val (.int c0), .val (.int c1), .val (.int c2), .val (.int c3), .val (.int c4), .val (.int c5), .val (.int c6), .val (.int c7), .val (.ref ya), .val (.ref o), .unset, .unset, .unset, .unset, .unset] []
        have F52 := (F44.keep K49 (ninS ne_e_o (ninS ne_e_ya nin0)))
        have F53 := (F45.keep K49)
        have F54 := (F46.keep K49 (ninS ne_e_o (ninS ne_e_ya nin0)))
        have F55 := (F47.keep K49 (ninS ne_t_o (ninS ne_t_ya nin0)))
        exact OwnW.Go.more (by decide) (by decide) (parta3 l Z a0 hw p0 p1 p2 p3 k e b n c0 c1 c2 c3 c4 c5 c6 c7 o ya ((((P <<< (b &&& 31)) ||| (f18 k c2)) &&& (((1 : Int32) <<< (((hd + b) - (8 : Int32)) &&& 31)) - (1 : Int32)))) (((hd + b) - (8 : Int32))) ((cnt + (1 : Int32))) t cs sv h0 h49 n0 sz51 X50 g_o z_o g_ya z_ya Fc49_0 Fc49_1 Fc49_2 Fc49_3 Fc49_4 Fc49_5 Fc49_6 F52 F53 F54 F55 Fc49_7 S_CS S_SF ne_e_o ne_t_o ne_ya_o ne_e_ya ne_t_ya hcs hsv hk hb (own_Il2 hk hI hv hlt hc241) (own_Yl (i := 2) hk hI hY hlt))
  ·
    refine OwnW.icmpY (pc' := 254) at_241 (flt hc241).2.2.2 (by decide) (by decide) ?_
    refine OwnW.iload (pc' := 256) at_254 rfl rfl ?_
    refine OwnW.iconst (pc' := 257) (v := (3 : Int32)) at_256 rfl rfl ?_
    refine OwnW.icmpY (pc' := 270) at_257 (flt (own_nlt hc241 (by decide))).2.2.2 (by decide) (by decide) ?_
    refine OwnW.iload (pc' := 272) at_270 rfl rfl ?_
    refine OwnW.iconst (pc' := 273) (v := (4 : Int32)) at_272 rfl rfl ?_
    refine OwnW.icmpY (pc' := 286) at_273 (flt (own_nlt hc241 (by decide))).2.2.2 (by decide) (by decide) ?_
    refine OwnW.iload (pc' := 288) at_286 rfl rfl ?_
    refine OwnW.iconst (pc' := 289) (v := (5 : Int32)) at_288 rfl rfl ?_
    refine OwnW.icmpY (pc' := 302) at_289 (flt (own_nlt hc241 (by decide))).2.2.2 (by decide) (by decide) ?_
    refine OwnW.iload (pc' := 304) at_302 rfl rfl ?_
    refine OwnW.bipush (pc' := 306) (v := (6 : Int32)) at_304 rfl rfl ?_
    refine OwnW.icmpY (pc' := 319) at_306 (flt (own_nlt hc241 (by decide))).2.2.2 (by decide) (by decide) ?_
    refine OwnW.iload (pc' := 321) at_319 rfl rfl ?_
    refine OwnW.bipush (pc' := 323) (v := (7 : Int32)) at_321 rfl rfl ?_
    refine OwnW.icmpY (pc' := 336) at_323 (flt (own_nlt hc241 (by decide))).2.2.2 (by decide) (by decide) ?_
    exact OwnW.Go.more (by decide) (by decide) (tailG l Z a0 hw p0 p1 p2 p3 k e b n c0 c1 c2 c3 c4 c5 c6 c7 o ((Value.ref ya)) P hd cs sv h0 hc n0 Z0 XB E_o F_al F_enc F_P F_hd F_b S_CS S_SF hk (own_Iend hI hc241))
set_option maxRecDepth 65536 in
set_option maxHeartbeats 400000000 in
theorem partz1 (l : Launch) (Z : State) (a0 : Array Value) (hw : ∀ d ∈ tables_1, d.before a0 Z = true) (p0 : Int32) (p1 : Int32) (p2 : Int64) (p3 : Int32) (k : Int32) (e : Addr) (b : Int32) (n : Int32) (c0 : Int32) (c1 : Int32) (c2 : Int32) (c3 : Int32) (c4 : Int32) (c5 : Int32) (c6 : Int32) (c7 : Int32) (o : Addr) (yv : Value) (cs : Int32) (sv : Value) (h0 hc : Heap) (n0 : Nat) (Z0 : n0 ≤ hc.size) (XB : Ext h0 hc) (g_o : n0 ≤ o) (z_o : h0.size ≤ o) (E_o : Exa Z hc o "com/example/plumbline/plumbline/BaseEncoding$Reading") (F_al : Fld Z hc o "com/example/plumbline/plumbline/BaseEncoding$Reading" "inAlphabet" "Z" (.int (0 : Int32))) (S_CS : Sta Z h0 "java/lang/String" "COMPACT_STRINGS" "Z" (.int cs)) (S_SF : Sta Z h0 "jdk/internal/util/Preconditions" "SIOOBE_FORMATTER" "Ljava/util/function/BiFunction;" sv) (hcs : ¬ cs = (0 : Int32)) (hsv : sv.isRef = true) (hk : own_K k b) (hb : own_C c0 c1 c2 c3 c4 c5 c6 c7) (hB : own_B k n c0 c1 c2 c3 c4 c5 c6 c7) :
    GoB0 l Z n0 OwnW.One1 hc 4 17 222 #[.val (.int p0), .val (.int p1), .val (.long p2), .second, .val (.int p3), .val (.int k), .val (.ref e), .val (.int b), .val (.int n), .val (.int c0), .val (.int c1), .val (.int c2), .val (.int c3), .val (.int c4), .val (.int c5), .val (.int c6), .val (.int c7), .val yv, .val (.ref o), .unset, .unset, .unset, .unset, .unset] [] := by
  refine OwnW.iload (pc' := 224) at_222 rfl rfl ?_
  refine OwnW.iconst (pc' := 225) (v := (1 : Int32)) at_224 rfl rfl ?_
  by_cases hc225 : (1 : Int32) < n
  ·
    refine OwnW.icmpN (pc' := 228) at_225 (tlt hc225).2.2.2 rfl ?_
    refine OwnW.aload (pc' := 230) at_228 rfl (rfl) rfl ?_
    refine OwnW.iload (pc' := 232) at_230 rfl rfl ?_
    refine OwnW.callS (a0 := a0) (pc' := 235) (W := 1) (k' := 6) (n' := 22) (argsL := [(.int c1)]) (rest := [(.ref o)]) at_232 (hw _ (List.mem_of_getElem? (i := 24) rfl)) (hw _ (List.mem_of_getElem? (i := 25) rfl)) (hw _ (List.mem_of_getElem? (i := 26) rfl)) (hw _ (List.mem_of_getElem? (i := 27) rfl)) (by decide) (rm4 l Z a0 hw c1 cs hc n0 Z0 (S_CS.ext XB) hcs (own_c1 hb).2) (by decide) (by decide) rfl rfl (by decide) (by decide) rfl pd_28C29Ljava2flang2fString3b rfl rfl rfl (Nat.le_of_ble_eq_true rfl) rfl ?_
    rintro h1 v1 ⟨ad1_0, ad1_1, kc1_0, rfl, K1, gl1_0, gl1_1, nn1_0_1, Fc1_0, Fc1_1, Fc1_2, Fc1_3⟩
    have lt_o_ad1_0 : @LT.lt Nat _ o ad1_0 := Nat.lt_of_lt_of_le (E_o).lt gl1_0
    have ge_ad1_0 : n0 ≤ ad1_0 := Nat.le_trans Z0 gl1_0
    have lt_o_ad1_1 : @LT.lt Nat _ o ad1_1 := Nat.lt_of_lt_of_le (E_o).lt gl1_1
    have ge_ad1_1 : n0 ≤ ad1_1 := Nat.le_trans Z0 gl1_1
    have X2 : Ext h0 h1 := OwnW.ext_keep XB K1 all0
    have sz3 : n0 ≤ h1.size := Nat.le_trans Z0 K1.1
    show GoB0 l Z n0 OwnW.One1 h1 6 22 235 #[.val (.int p0), .val (.int p1), .val (.long p2), .second, .val (.int p3), .val (.int k), .val (.ref e), .val (.int b), .val (.int n), .val (.int c0), .val (.int c1), .val (.int c2), .val (.int c3), .val (.int c4), .val (.int c5), .val (.int c6), .val (.int c7), .val yv, .val (.ref o), .unset, .unset, .unset, .unset, .unset] [(.ref ad1_0), (.ref o)]
    have F4 := (E_o.keep K1)
    have F5 := (F_al.keep K1 nin0)
    refine OwnW.callV (a0 := a0) (pc' := 238) (W := 0) (k' := 6) (n' := 22) (argsL := [(.ref ad1_0)]) (rest := []) at_235 (hw _ (List.mem_of_getElem? (i := 48) rfl)) (hw _ (List.mem_of_getElem? (i := 49) rfl)) (hw _ (List.mem_of_getElem? (i := 51) rfl)) (hw _ (List.mem_of_getElem? (i := 50) rfl)) (hw _ (List.mem_of_getElem? (i := 11) rfl)) (hw _ (List.mem_of_getElem? (i := 52) rfl)) (by decide) F4 (rm8z l Z a0 hw o ad1_0 cs ad1_1 kc1_0 (nar .byte (c1.toInt8.toInt32)) sv h1 n0 sz3 g_o F4 F5 Fc1_0 Fc1_2 Fc1_1 Fc1_3 (S_CS.ext X2) (S_SF.ext X2) hcs hsv) (by decide) (by decide) rfl rfl (by decide) (by decide) rfl pd_28Ljava2flang2fCharSequence3b29V rfl rfl rfl (Nat.le_of_ble_eq_true rfl) rfl ?_
    rintro h6 v6 ⟨rfl, K6, Fc6_0, Fc6_1⟩
    have X7 : Ext h0 h6 := OwnW.ext_keep X2 K6 (allS z_o all0)
    have sz8 : n0 ≤ h6.size := Nat.le_trans sz3 K6.1
    show GoB0 l Z n0 OwnW.One1 h6 6 22 238 #[.val (.int p0), .val (.int p1), .val (.long p2), .second, .val (.int p3), .val (.int k), .val (.ref e), .val (.int b), .val (.int n), .val (.int c0), .val (.int c1), .val (.int c2), .val (.int c3), .val (.int c4), .val (.int c5), .val (.int c6), .val (.int c7), .val yv, .val (.ref o), .unset, .unset, .unset, .unset, .unset] []
    exact OwnW.Go.more (by decide) (by decide) (partz2 l Z a0 hw p0 p1 p2 p3 k e b n c0 c1 c2 c3 c4 c5 c6 c7 o yv cs sv h0 h6 n0 sz8 X7 g_o z_o Fc6_0 Fc6_1 S_CS S_SF hcs hsv hk hb hB)
  ·
    refine OwnW.icmpY (pc' := 238) at_225 (flt hc225).2.2.2 (by decide) (by decide) ?_
    refine OwnW.iload (pc' := 240) at_238 rfl rfl ?_
    refine OwnW.iconst (pc' := 241) (v := (2 : Int32)) at_240 rfl rfl ?_
    refine OwnW.icmpY (pc' := 254) at_241 (flt (own_nlt hc225 (by decide))).2.2.2 (by decide) (by decide) ?_
    refine OwnW.iload (pc' := 256) at_254 rfl rfl ?_
    refine OwnW.iconst (pc' := 257) (v := (3 : Int32)) at_256 rfl rfl ?_
    refine OwnW.icmpY (pc' := 270) at_257 (flt (own_nlt hc225 (by decide))).2.2.2 (by decide) (by decide) ?_
    refine OwnW.iload (pc' := 272) at_270 rfl rfl ?_
    refine OwnW.iconst (pc' := 273) (v := (4 : Int32)) at_272 rfl rfl ?_
    refine OwnW.icmpY (pc' := 286) at_273 (flt (own_nlt hc225 (by decide))).2.2.2 (by decide) (by decide) ?_
    refine OwnW.iload (pc' := 288) at_286 rfl rfl ?_
    refine OwnW.iconst (pc' := 289) (v := (5 : Int32)) at_288 rfl rfl ?_
    refine OwnW.icmpY (pc' := 302) at_289 (flt (own_nlt hc225 (by decide))).2.2.2 (by decide) (by decide) ?_
    refine OwnW.iload (pc' := 304) at_302 rfl rfl ?_
    refine OwnW.bipush (pc' := 306) (v := (6 : Int32)) at_304 rfl rfl ?_
    refine OwnW.icmpY (pc' := 319) at_306 (flt (own_nlt hc225 (by decide))).2.2.2 (by decide) (by decide) ?_
    refine OwnW.iload (pc' := 321) at_319 rfl rfl ?_
    refine OwnW.bipush (pc' := 323) (v := (7 : Int32)) at_321 rfl rfl ?_
    refine OwnW.icmpY (pc' := 336) at_323 (flt (own_nlt hc225 (by decide))).2.2.2 (by decide) (by decide) ?_
    exact OwnW.Go.more (by decide) (by decide) (tailZ l Z a0 hw p0 p1 p2 p3 k e b n c0 c1 c2 c3 c4 c5 c6 c7 o yv cs sv h0 hc n0 Z0 XB E_o F_al S_CS S_SF hk hB)
set_option maxRecDepth 65536 in
set_option maxHeartbeats 400000000 in
theorem partn1 (l : Launch) (Z : State) (a0 : Array Value) (hw : ∀ d ∈ tables_1, d.before a0 Z = true) (p0 : Int32) (p1 : Int32) (p2 : Int64) (p3 : Int32) (k : Int32) (e : Addr) (b : Int32) (n : Int32) (c0 : Int32) (c1 : Int32) (c2 : Int32) (c3 : Int32) (c4 : Int32) (c5 : Int32) (c6 : Int32) (c7 : Int32) (o : Addr) (P : Int32) (hd : Int32) (cnt : Int32) (t : Addr) (cs : Int32) (sv : Value) (h0 hc : Heap) (n0 : Nat) (Z0 : n0 ≤ hc.size) (XB : Ext h0 hc) (g_o : n0 ≤ o) (z_o : h0.size ≤ o) (E_o : Exa Z hc o "com/example/plumbline/plumbline/BaseEncoding$Reading") (F_al : Fld Z hc o "com/example/plumbline/plumbline/BaseEncoding$Reading" "inAlphabet" "Z" (.int (1 : Int32))) (F_enc : Fld Z hc o "com/example/plumbline/plumbline/BaseEncoding$Reading" "encoding" "Lcom/example/plumbline/plumbline/BaseEncoding;" (.ref e)) (F_P : Fld Z hc o "com/example/plumbline/plumbline/BaseEncoding$Reading" "pending" "I" (.int P)) (F_hd : Fld Z hc o "com/example/plumbline/plumbline/BaseEncoding$Reading" "held" "I" (.int hd)) (F_by : Fld Z hc o "com/example/plumbline/plumbline/BaseEncoding$Reading" "bytes" "[B" .null) (F_cnt : Fld Z hc o "com/example/plumbline/plumbline/BaseEncoding$Reading" "count" "I" (.int cnt)) (F_b : Fld Z hc e "com/example/plumbline/plumbline/BaseEncoding" "bits" "I" (.int b)) (E_e : Exa Z hc e "com/example/plumbline/plumbline/BaseEncoding") (F_t : Fld Z hc e "com/example/plumbline/plumbline/BaseEncoding" "values" "[I" (.ref t)) (T_t : Tab Z hc t k) (S_CS : Sta Z h0 "java/lang/String" "COMPACT_STRINGS" "Z" (.int cs)) (S_SF : Sta Z h0 "jdk/internal/util/Preconditions" "SIOOBE_FORMATTER" "Ljava/util/function/BiFunction;" sv) (ne_e_o : e ≠ o) (ne_t_o : t ≠ o) (hcs : ¬ cs = (0 : Int32)) (hsv : sv.isRef = true) (hk : own_K k b) (hb : own_C c0 c1 c2 c3 c4 c5 c6 c7) (hI : own_I 1 k b n hd P c0 c1 c2 c3 c4 c5 c6 c7) :
    GoB0 l Z n0 OwnW.One1 hc 4 17 222 #[.val (.int p0), .val (.int p1), .val (.long p2), .second, .val (.int p3), .val (.int k), .val (.ref e), .val (.int b), .val (.int n), .val (.int c0), .val (.int c1), .val (.int c2), .val (.int c3), .val (.int c4), .val (.int c5), .val (.int c6), .val (.int c7), .val .null, .val (.ref o), .unset, .unset, .unset, .unset, .unset] [] := by
  refine OwnW.iload (pc' := 224) at_222 rfl rfl ?_
  refine OwnW.iconst (pc' := 225) (v := (1 : Int32)) at_224 rfl rfl ?_
  by_cases hc225 : (1 : Int32) < n
  ·
    refine OwnW.icmpN (pc' := 228) at_225 (tlt hc225).2.2.2 rfl ?_
    refine OwnW.aload (pc' := 230) at_228 rfl (rfl) rfl ?_
    refine OwnW.iload (pc' := 232) at_230 rfl rfl ?_
    refine OwnW.callS (a0 := a0) (pc' := 235) (W := 1) (k' := 6) (n' := 22) (argsL := [(.int c1)]) (rest := [(.ref o)]) at_232 (hw _ (List.mem_of_getElem? (i := 24) rfl)) (hw _ (List.mem_of_getElem? (i := 25) rfl)) (hw _ (List.mem_of_getElem? (i := 26) rfl)) (hw _ (List.mem_of_getElem? (i := 27) rfl)) (by decide) (rm4 l Z a0 hw c1 cs hc n0 Z0 (S_CS.ext XB) hcs (own_c1 hb).2) (by decide) (by decide) rfl rfl (by decide) (by decide) rfl pd_28C29Ljava2flang2fString3b rfl rfl rfl (Nat.le_of_ble_eq_true rfl) rfl ?_
    rintro h1 v1 ⟨ad1_0, ad1_1, kc1_0, rfl, K1, gl1_0, gl1_1, nn1_0_1, Fc1_0, Fc1_1, Fc1_2, Fc1_3⟩
    have lt_o_ad1_0 : @LT.lt Nat _ o ad1_0 := Nat.lt_of_lt_of_le (E_o).lt gl1_0
    have lt_e_ad1_0 : @LT.lt Nat _ e ad1_0 := Nat.lt_of_lt_of_le (E_e).lt gl1_0
    have lt_t_ad1_0 : @LT.lt Nat _ t ad1_0 := Nat.lt_of_lt_of_le (T_t).lt gl1_0
    have ge_ad1_0 : n0 ≤ ad1_0 := Nat.le_trans Z0 gl1_0
    have lt_o_ad1_1 : @LT.lt Nat _ o ad1_1 := Nat.lt_of_lt_of_le (E_o).lt gl1_1
    have lt_e_ad1_1 : @LT.lt Nat _ e ad1_1 := Nat.lt_of_lt_of_le (E_e).lt gl1_1
    have lt_t_ad1_1 : @LT.lt Nat _ t ad1_1 := Nat.lt_of_lt_of_le (T_t).lt gl1_1
    have ge_ad1_1 : n0 ≤ ad1_1 := Nat.le_trans Z0 gl1_1
    have X2 : Ext h0 h1 := OwnW.ext_keep XB K1 all0
    have sz3 : n0 ≤ h1.size := Nat.le_trans Z0 K1.1
    show GoB0 l Z n0 OwnW.One1 h1 6 22 235 #[.val (.int p0), .val (.int p1), .val (.long p2), .second, .val (.int p3), .val (.int k), .val (.ref e), .val (.int b), .val (.int n), .val (.int c0), .val (.int c1), .val (.int c2), .val (.int c3), .val (.int c4), .val (.int c5), .val (.int c6), .val (.int c7), .val .null, .val (.ref o), .unset, .unset, .unset, .unset, .unset] [(.ref ad1_0), (.ref o)]
    by_cases hv : (f18 k c1) < (0 : Int32)
    ·
      have F4 := (E_o.keep K1)
      have F5 := (F_al.keep K1 nin0)
      have F6 := (F_enc.keep K1 nin0)
      have F7 := (F_P.keep K1 nin0)
      have F8 := (F_hd.keep K1 nin0)
      have F9 := (F_by.keep K1 nin0)
      have F10 := (F_cnt.keep K1 nin0)
      have F11 := (F_b.keep K1 nin0)
      have F12 := (E_e.keep K1)
      have F13 := (F_t.keep K1 nin0)
      have F14 := (T_t.keep K1 nin0)
      refine OwnW.callV (a0 := a0) (pc' := 238) (W := 0) (k' := 6) (n' := 22) (argsL := [(.ref ad1_0)]) (rest := []) at_235 (hw _ (List.mem_of_getElem? (i := 48) rfl)) (hw _ (List.mem_of_getElem? (i := 49) rfl)) (hw _ (List.mem_of_getElem? (i := 51) rfl)) (hw _ (List.mem_of_getElem? (i := 50) rfl)) (hw _ (List.mem_of_getElem? (i := 11) rfl)) (hw _ (List.mem_of_getElem? (i := 52) rfl)) (by decide) F4 (rm8xn l Z a0 hw o ad1_0 cs ad1_1 kc1_0 (nar .byte (c1.toInt8.toInt32)) sv c1 P hd cnt e b k t h1 n0 sz3 g_o F4 F5 F6 F7 F8 F9 F10 Fc1_0 Fc1_2 Fc1_1 Fc1_3 (S_CS.ext X2) (S_SF.ext X2) F11 F12 F13 F14 hcs hsv (own_ch (own_c1 hb)) (own_c1 hb).1 hv (Ne.symm (Nat.ne_of_lt lt_o_ad1_0)) (Ne.symm (Nat.ne_of_lt lt_o_ad1_1)) ne_e_o ne_t_o) (by decide) (by decide) rfl rfl (by decide) (by decide) rfl pd_28Ljava2flang2fCharSequence3b29V rfl rfl rfl (Nat.le_of_ble_eq_true rfl) rfl ?_
      rintro h15 v15 ⟨rfl, K15, Fc15_0, Fc15_1⟩
      have X16 : Ext h0 h15 := OwnW.ext_keep X2 K15 (allS z_o all0)
      have sz17 : n0 ≤ h15.size := Nat.le_trans sz3 K15.1
      show GoB0 l Z n0 OwnW.One1 h15 6 22 238 #[.val (.int p0), .val (.int p1), .val (.long p2), .second, .val (.int p3), .val (.int k), .val (.ref e), .val (.int b), .val (.int n), .val (.int c0), .val (.int c1), .val (.int c2), .val (.int c3), .val (.int c4), .val (.int c5), .val (.int c6), .val (.int c7), .val .null, .val (.ref o), .unset, .unset, .unset, .unset, .unset] []
      exact OwnW.Go.more (by decide) (by decide) (partz2 l Z a0 hw p0 p1 p2 p3 k e b n c0 c1 c2 c3 c4 c5 c6 c7 o Value.null cs sv h0 h15 n0 sz17 X16 g_o z_o Fc15_0 Fc15_1 S_CS S_SF hcs hsv hk hb (own_B1 hv hc225))
    ·
      by_cases hlt : (hd + b) < (8 : Int32)
      ·
        have F18 := (E_o.keep K1)
        have F19 := (F_al.keep K1 nin0)
        have F20 := (F_enc.keep K1 nin0)
        have F21 := (F_P.keep K1 nin0)
        have F22 := (F_hd.keep K1 nin0)
        have F23 := (F_by.keep K1 nin0)
        have F24 := (F_cnt.keep K1 nin0)
        have F25 := (F_b.keep K1 nin0)
        have F26 := (E_e.keep K1)
        have F27 := (F_t.keep K1 nin0)
        have F28 := (T_t.keep K1 nin0)
        refine OwnW.callV (a0 := a0) (pc' := 238) (W := 0) (k' := 6) (n' := 22) (argsL := [(.ref ad1_0)]) (rest := []) at_235 (hw _ (List.mem_of_getElem? (i := 48) rfl)) (hw _ (List.mem_of_getElem? (i := 49) rfl)) (hw _ (List.mem_of_getElem? (i := 51) rfl)) (hw _ (List.mem_of_getElem? (i := 50) rfl)) (hw _ (List.mem_of_getElem? (i := 11) rfl)) (hw _ (List.mem_of_getElem? (i := 52) rfl)) (by decide) F18 (rm8sn l Z a0 hw o ad1_0 cs ad1_1 kc1_0 (nar .byte (c1.toInt8.toInt32)) sv c1 P hd cnt e b k t h1 n0 sz3 g_o F18 F19 F20 F21 F22 F23 F24 Fc1_0 Fc1_2 Fc1_1 Fc1_3 (S_CS.ext X2) (S_SF.ext X2) F25 F26 F27 F28 hcs hsv (own_ch (own_c1 hb)) (own_c1 hb).1 hv hlt (Ne.symm (Nat.ne_of_lt lt_o_ad1_0)) (Ne.symm (Nat.ne_of_lt lt_o_ad1_1)) ne_e_o ne_t_o) (by decide) (by decide) rfl rfl (by decide) (by decide) rfl pd_28Ljava2flang2fCharSequence3b29V rfl rfl rfl (Nat.le_of_ble_eq_true rfl) rfl ?_
        rintro h29 v29 ⟨rfl, K29, Fc29_0, Fc29_1, Fc29_2, Fc29_3, Fc29_4, Fc29_5, Fc29_6⟩
        have X30 : Ext h0 h29 := OwnW.ext_keep X2 K29 (allS z_o all0)
        have sz31 : n0 ≤ h29.size := Nat.le_trans sz3 K29.1
        show GoB0 l Z n0 OwnW.One1 h29 6 22 238 #[.val (.int p0), .val (.int p1), .val (.long p2), .second, .val (.int p3), .val (.int k), .val (.ref e), .val (.int b), .val (.int n), .val (.int c0), .val (.int c1), .val (.int c2), .val (.int c3), .val (.int c4), .val (.int c5), .val (.int c6), .val (.int c7), .val .null, .val (.ref o), .unset, .unset, .unset, .unset, .unset] []
        have F32 := (F25.keep K29 (ninS ne_e_o nin0))
        have F33 := (F26.keep K29)
        have F34 := (F27.keep K29 (ninS ne_e_o nin0))
        have F35 := (F28.keep K29 (ninS ne_t_o nin0))
        exact OwnW.Go.more (by decide) (by decide) (partn2 l Z a0 hw p0 p1 p2 p3 k e b n c0 c1 c2 c3 c4 c5 c6 c7 o (((P <<< (b &&& 31)) ||| (f18 k c1))) ((hd + b)) cnt t cs sv h0 h29 n0 sz31 X30 g_o z_o Fc29_0 Fc29_1 Fc29_2 Fc29_3 Fc29_4 Fc29_5 Fc29_6 F32 F33 F34 F35 S_CS S_SF ne_e_o ne_t_o hcs hsv hk hb (own_Is1 hk hI hv hlt hc225))
      ·
        have F36 := (E_o.keep K1)
        have F37 := (F_al.keep K1 nin0)
        have F38 := (F_enc.keep K1 nin0)
        have F39 := (F_P.keep K1 nin0)
        have F40 := (F_hd.keep K1 nin0)
        have F41 := (F_by.keep K1 nin0)
        have F42 := (F_cnt.keep K1 nin0)
        have F43 := (F_b.keep K1 nin0)
        have F44 := (E_e.keep K1)
        have F45 := (F_t.keep K1 nin0)
        have F46 := (T_t.keep K1 nin0)
        refine OwnW.callV (a0 := a0) (pc' := 238) (W := 0) (k' := 6) (n' := 22) (argsL := [(.ref ad1_0)]) (rest := []) at_235 (hw _ (List.mem_of_getElem? (i := 48) rfl)) (hw _ (List.mem_of_getElem? (i := 49) rfl)) (hw _ (List.mem_of_getElem? (i := 51) rfl)) (hw _ (List.mem_of_getElem? (i := 50) rfl)) (hw _ (List.mem_of_getElem? (i := 11) rfl)) (hw _ (List.mem_of_getElem? (i := 52) rfl)) (by decide) F36 (rm8nn l Z a0 hw o ad1_0 cs ad1_1 kc1_0 (nar .byte (c1.toInt8.toInt32)) sv c1 P hd cnt e b k t h1 n0 sz3 g_o F36 F37 F38 F39 F40 F41 F42 Fc1_0 Fc1_2 Fc1_1 Fc1_3 (S_CS.ext X2) (S_SF.ext X2) F43 F44 F45 F46 hcs hsv (own_ch (own_c1 hb)) (own_c1 hb).1 hv hlt (Ne.symm (Nat.ne_of_lt lt_o_ad1_0)) (Ne.symm (Nat.ne_of_lt lt_o_ad1_1)) ne_e_o ne_t_o) (by decide) (by decide) rfl rfl (by decide) (by decide) rfl pd_28Ljava2flang2fCharSequence3b29V rfl rfl rfl (Nat.le_of_ble_eq_true rfl) rfl ?_
        rintro h47 v47 ⟨rfl, K47, Fc47_0, Fc47_1, Fc47_2, Fc47_3, Fc47_4, Fc47_5, Fc47_6⟩
        have X48 : Ext h0 h47 := OwnW.ext_keep X2 K47 (allS z_o all0)
        have sz49 : n0 ≤ h47.size := Nat.le_trans sz3 K47.1
        show GoB0 l Z n0 OwnW.One1 h47 6 22 238 #[.val (.int p0), .val (.int p1), .val (.long p2), .second, .val (.int p3), .val (.int k), .val (.ref e), .val (.int b), .val (.int n), .val (.int c0), .val (.int c1), .val (.int c2), .val (.int c3), .val (.int c4), .val (.int c5), .val (.int c6), .val (.int c7), .val .null, .val (.ref o), .unset, .unset, .unset, .unset, .unset] []
        have F50 := (F43.keep K47 (ninS ne_e_o nin0))
        have F51 := (F44.keep K47)
        have F52 := (F45.keep K47 (ninS ne_e_o nin0))
        have F53 := (F46.keep K47 (ninS ne_t_o nin0))
        exact OwnW.Go.more (by decide) (by decide) (partn2 l Z a0 hw p0 p1 p2 p3 k e b n c0 c1 c2 c3 c4 c5 c6 c7 o ((((P <<< (b &&& 31)) ||| (f18 k c1)) &&& (((1 : Int32) <<< (((hd + b) - (8 : Int32)) &&& 31)) - (1 : Int32)))) (((hd + b) - (8 : Int32))) cnt t cs sv h0 h47 n0 sz49 X48 g_o z_o Fc47_0 Fc47_1 Fc47_2 Fc47_3 Fc47_4 Fc47_5 Fc47_6 F50 F51 F52 F53 S_CS S_SF ne_e_o ne_t_o hcs hsv hk hb (own_Il1 hk hI hv hlt hc225))
  ·
    refine OwnW.icmpY (pc' := 238) at_225 (flt hc225).2.2.2 (by decide) (by decide) ?_
    refine OwnW.iload (pc' := 240) at_238 rfl rfl ?_
    refine OwnW.iconst (pc' := 241) (v := (2 : Int32)) at_240 rfl rfl ?_
    refine OwnW.icmpY (pc' := 254) at_241 (flt (own_nlt hc225 (by decide))).2.2.2 (by decide) (by decide) ?_
    refine OwnW.iload (pc' := 256) at_254 rfl rfl ?_
    refine OwnW.iconst (pc' := 257) (v := (3 : Int32)) at_256 rfl rfl ?_
    refine OwnW.icmpY (pc' := 270) at_257 (flt (own_nlt hc225 (by decide))).2.2.2 (by decide) (by decide) ?_
    refine OwnW.iload (pc' := 272) at_270 rfl rfl ?_
    refine OwnW.iconst (pc' := 273) (v := (4 : Int32)) at_272 rfl rfl ?_
    refine OwnW.icmpY (pc' := 286) at_273 (flt (own_nlt hc225 (by decide))).2.2.2 (by decide) (by decide) ?_
    refine OwnW.iload (pc' := 288) at_286 rfl rfl ?_
    refine OwnW.iconst (pc' := 289) (v := (5 : Int32)) at_288 rfl rfl ?_
    refine OwnW.icmpY (pc' := 302) at_289 (flt (own_nlt hc225 (by decide))).2.2.2 (by decide) (by decide) ?_
    refine OwnW.iload (pc' := 304) at_302 rfl rfl ?_
    refine OwnW.bipush (pc' := 306) (v := (6 : Int32)) at_304 rfl rfl ?_
    refine OwnW.icmpY (pc' := 319) at_306 (flt (own_nlt hc225 (by decide))).2.2.2 (by decide) (by decide) ?_
    refine OwnW.iload (pc' := 321) at_319 rfl rfl ?_
    refine OwnW.bipush (pc' := 323) (v := (7 : Int32)) at_321 rfl rfl ?_
    refine OwnW.icmpY (pc' := 336) at_323 (flt (own_nlt hc225 (by decide))).2.2.2 (by decide) (by decide) ?_
    exact OwnW.Go.more (by decide) (by decide) (tailG l Z a0 hw p0 p1 p2 p3 k e b n c0 c1 c2 c3 c4 c5 c6 c7 o Value.null P hd cs sv h0 hc n0 Z0 XB E_o F_al F_enc F_P F_hd F_b S_CS S_SF hk (own_Iend hI hc225))
set_option maxRecDepth 65536 in
set_option maxHeartbeats 400000000 in
theorem parta1 (l : Launch) (Z : State) (a0 : Array Value) (hw : ∀ d ∈ tables_1, d.before a0 Z = true) (p0 : Int32) (p1 : Int32) (p2 : Int64) (p3 : Int32) (k : Int32) (e : Addr) (b : Int32) (n : Int32) (c0 : Int32) (c1 : Int32) (c2 : Int32) (c3 : Int32) (c4 : Int32) (c5 : Int32) (c6 : Int32) (c7 : Int32) (o : Addr) (ya : Addr) (P : Int32) (hd : Int32) (cnt : Int32) (t : Addr) (cs : Int32) (sv : Value) (h0 hc : Heap) (n0 : Nat) (Z0 : n0 ≤ hc.size) (XB : Ext h0 hc) (g_o : n0 ≤ o) (z_o : h0.size ≤ o) (g_ya : n0 ≤ ya) (z_ya : h0.size ≤ ya) (E_o : Exa Z hc o "com/example/plumbline/plumbline/BaseEncoding$Reading") (F_al : Fld Z hc o "com/example/plumbline/plumbline/BaseEncoding$Reading" "inAlphabet" "Z" (.int (1 : Int32))) (F_enc : Fld Z hc o "com/example/plumbline/plumbline/BaseEncoding$Reading" "encoding" "Lcom/example/plumbline/plumbline/BaseEncoding;" (.ref e)) (F_P : Fld Z hc o "com/example/plumbline/plumbline/BaseEncoding$Reading" "pending" "I" (.int P)) (F_hd : Fld Z hc o "com/example/plumbline/plumbline/BaseEncoding$Reading" "held" "I" (.int hd)) (F_by : Fld Z hc o "com/example/plumbline/plumbline/BaseEncoding$Reading" "bytes" "[B" (.ref ya)) (F_cnt : Fld Z hc o "com/example/plumbline/plumbline/BaseEncoding$Reading" "count" "I" (.int cnt)) (F_b : Fld Z hc e "com/example/plumbline/plumbline/BaseEncoding" "bits" "I" (.int b)) (E_e : Exa Z hc e "com/example/plumbline/plumbline/BaseEncoding") (F_t : Fld Z hc e "com/example/plumbline/plumbline/BaseEncoding" "values" "[I" (.ref t)) (T_t : Tab Z hc t k) (Y_by : Byt Z hc ya) (S_CS : Sta Z h0 "java/lang/String" "COMPACT_STRINGS" "Z" (.int cs)) (S_SF : Sta Z h0 "jdk/internal/util/Preconditions" "SIOOBE_FORMATTER" "Ljava/util/function/BiFunction;" sv) (ne_e_o : e ≠ o) (ne_t_o : t ≠ o) (ne_ya_o : ya ≠ o) (ne_e_ya : e ≠ ya) (ne_t_ya : t ≠ ya) (hcs : ¬ cs = (0 : Int32)) (hsv : sv.isRef = true) (hk : own_K k b) (hb : own_C c0 c1 c2 c3 c4 c5 c6 c7) (hI : own_I 1 k b n hd P c0 c1 c2 c3 c4 c5 c6 c7) (hY : own_Y 1 b cnt) :
    GoB0 l Z n0 OwnW.One1 hc 4 17 222 #[.val (.int p0), .val (.int p1), .val (.long p2), .second, .val (.int p3), .val (.int k), .val (.ref e), .val (.int b), .val (.int n), .val (.int c0), .val (.int c1), .val (.int c2), .val (.int c3), .val (.int c4), .val (.int c5), .val (.int c6), .val (.int c7), .val (.ref ya), .val (.ref o), .unset, .unset, .unset, .unset, .unset] [] := by
  refine OwnW.iload (pc' := 224) at_222 rfl rfl ?_
  refine OwnW.iconst (pc' := 225) (v := (1 : Int32)) at_224 rfl rfl ?_
  by_cases hc225 : (1 : Int32) < n
  ·
    refine OwnW.icmpN (pc' := 228) at_225 (tlt hc225).2.2.2 rfl ?_
    refine OwnW.aload (pc' := 230) at_228 rfl (rfl) rfl ?_
    refine OwnW.iload (pc' := 232) at_230 rfl rfl ?_
    refine OwnW.callS (a0 := a0) (pc' := 235) (W := 1) (k' := 6) (n' := 22) (argsL := [(.int c1)]) (rest := [(.ref o)]) at_232 (hw _ (List.mem_of_getElem? (i := 24) rfl)) (hw _ (List.mem_of_getElem? (i := 25) rfl)) (hw _ (List.mem_of_getElem? (i := 26) rfl)) (hw _ (List.mem_of_getElem? (i := 27) rfl)) (by decide) (rm4 l Z a0 hw c1 cs hc n0 Z0 (S_CS.ext XB) hcs (own_c1 hb).2) (by decide) (by decide) rfl rfl (by decide) (by decide) rfl pd_28C29Ljava2flang2fString3b rfl rfl rfl (Nat.le_of_ble_eq_true rfl) rfl ?_
    rintro h1 v1 ⟨ad1_0, ad1_1, kc1_0, rfl, K1, gl1_0, gl1_1, nn1_0_1, Fc1_0, Fc1_1, Fc1_2, Fc1_3⟩
    have lt_o_ad1_0 : @LT.lt Nat _ o ad1_0 := Nat.lt_of_lt_of_le (E_o).lt gl1_0
    have lt_e_ad1_0 : @LT.lt Nat _ e ad1_0 := Nat.lt_of_lt_of_le (E_e).lt gl1_0
    have lt_t_ad1_0 : @LT.lt Nat _ t ad1_0 := Nat.lt_of_lt_of_le (T_t).lt gl1_0
    have lt_ya_ad1_0 : @LT.lt Nat _ ya ad1_0 := Nat.lt_of_lt_of_le (Y_by).lt gl1_0
    have ge_ad1_0 : n0 ≤ ad1_0 := Nat.le_trans Z0 gl1_0
    have lt_o_ad1_1 : @LT.lt Nat _ o ad1_1 := Nat.lt_of_lt_of_le (E_o).lt gl1_1
    have lt_e_ad1_1 : @LT.lt Nat _ e ad1_1 := Nat.lt_of_lt_of_le (E_e).lt gl1_1
    have lt_t_ad1_1 : @LT.lt Nat _ t ad1_1 := Nat.lt_of_lt_of_le (T_t).lt gl1_1
    have lt_ya_ad1_1 : @LT.lt Nat _ ya ad1_1 := Nat.lt_of_lt_of_le (Y_by).lt gl1_1
    have ge_ad1_1 : n0 ≤ ad1_1 := Nat.le_trans Z0 gl1_1
    have X2 : Ext h0 h1 := OwnW.ext_keep XB K1 all0
    have sz3 : n0 ≤ h1.size := Nat.le_trans Z0 K1.1
    show GoB0 l Z n0 OwnW.One1 h1 6 22 235 #[.val (.int p0), .val (.int p1), .val (.long p2), .second, .val (.int p3), .val (.int k), .val (.ref e), .val (.int b), .val (.int n), .val (.int c0), .val (.int c1), .val (.int c2), .val (.int c3), .val (.int c4), .val (.int c5), .val (.int c6), .val (.int c7), .val (.ref ya), .val (.ref o), .unset, .unset, .unset, .unset, .unset] [(.ref ad1_0), (.ref o)]
    by_cases hv : (f18 k c1) < (0 : Int32)
    ·
      have F4 := (E_o.keep K1)
      have F5 := (F_al.keep K1 nin0)
      have F6 := (F_enc.keep K1 nin0)
      have F7 := (F_P.keep K1 nin0)
      have F8 := (F_hd.keep K1 nin0)
      have F9 := (F_by.keep K1 nin0)
      have F10 := (F_cnt.keep K1 nin0)
      have F11 := (F_b.keep K1 nin0)
      have F12 := (E_e.keep K1)
      have F13 := (F_t.keep K1 nin0)
      have F14 := (T_t.keep K1 nin0)
      refine OwnW.callV (a0 := a0) (pc' := 238) (W := 0) (k' := 6) (n' := 22) (argsL := [(.ref ad1_0)]) (rest := []) at_235 (hw _ (List.mem_of_getElem? (i := 48) rfl)) (hw _ (List.mem_of_getElem? (i := 49) rfl)) (hw _ (List.mem_of_getElem? (i := 51) rfl)) (hw _ (List.mem_of_getElem? (i := 50) rfl)) (hw _ (List.mem_of_getElem? (i := 11) rfl)) (hw _ (List.mem_of_getElem? (i := 52) rfl)) (by decide) F4 (rm8xa l Z a0 hw o ad1_0 cs ad1_1 kc1_0 (nar .byte (c1.toInt8.toInt32)) sv c1 P hd cnt e b k t ya h1 n0 sz3 g_o F4 F5 F6 F7 F8 F9 F10 Fc1_0 Fc1_2 Fc1_1 Fc1_3 (S_CS.ext X2) (S_SF.ext X2) F11 F12 F13 F14 hcs hsv (own_ch (own_c1 hb)) (own_c1 hb).1 hv (Ne.symm (Nat.ne_of_lt lt_o_ad1_0)) (Ne.symm (Nat.ne_of_lt lt_o_ad1_1)) ne_e_o ne_t_o ne_ya_o (Ne.symm (Nat.ne_of_lt lt_ya_ad1_0)) (Ne.symm (Nat.ne_of_lt lt_ya_ad1_1)) ne_e_ya ne_t_ya) (by decide) (by decide) rfl rfl (by decide) (by decide) rfl pd_28Ljava2flang2fCharSequence3b29V rfl rfl rfl (Nat.le_of_ble_eq_true rfl) rfl ?_
      rintro h15 v15 ⟨rfl, K15, Fc15_0, Fc15_1⟩
      have X16 : Ext h0 h15 := OwnW.ext_keep X2 K15 (allS z_o all0)
      have sz17 : n0 ≤ h15.size := Nat.le_trans sz3 K15.1
      show GoB0 l Z n0 OwnW.One1 h15 6 22 238 #[.val (.int p0), .val (.int p1), .val (.long p2), .second, .val (.int p3), .val (.int k), .val (.ref e), .val (.int b), .val (.int n), .val (.int c0), .val (.int c1), .val (.int c2), .val (.int c3), .val (.int c4), .val (.int c5), .val (.int c6), .val (.int c7), .val (.ref ya), .val (.ref o), .unset, .unset, .unset, .unset, .unset] []
      exact OwnW.Go.more (by decide) (by decide) (partz2 l Z a0 hw p0 p1 p2 p3 k e b n c0 c1 c2 c3 c4 c5 c6 c7 o ((Value.ref ya)) cs sv h0 h15 n0 sz17 X16 g_o z_o Fc15_0 Fc15_1 S_CS S_SF hcs hsv hk hb (own_B1 hv hc225))
    ·
      by_cases hlt : (hd + b) < (8 : Int32)
      ·
        have F18 := (E_o.keep K1)
        have F19 := (F_al.keep K1 nin0)
        have F20 := (F_enc.keep K1 nin0)
        have F21 := (F_P.keep K1 nin0)
        have F22 := (F_hd.keep K1 nin0)
        have F23 := (F_by.keep K1 nin0)
        have F24 := (F_cnt.keep K1 nin0)
        have F25 := (F_b.keep K1 nin0)
        have F26 := (E_e.keep K1)
        have F27 := (F_t.keep K1 nin0)
        have F28 := (T_t.keep K1 nin0)
        refine OwnW.callV (a0 := a0) (pc' := 238) (W := 0) (k' := 6) (n' := 22) (argsL := [(.ref ad1_0)]) (rest := []) at_235 (hw _ (List.mem_of_getElem? (i := 48) rfl)) (hw _ (List.mem_of_getElem? (i := 49) rfl)) (hw _ (List.mem_of_getElem? (i := 51) rfl)) (hw _ (List.mem_of_getElem? (i := 50) rfl)) (hw _ (List.mem_of_getElem? (i := 11) rfl)) (hw _ (List.mem_of_getElem? (i := 52) rfl)) (by decide) F18 (rm8sa l Z a0 hw o ad1_0 cs ad1_1 kc1_0 (nar .byte (c1.toInt8.toInt32)) sv c1 P hd cnt e b k t ya h1 n0 sz3 g_o F18 F19 F20 F21 F22 F23 F24 Fc1_0 Fc1_2 Fc1_1 Fc1_3 (S_CS.ext X2) (S_SF.ext X2) F25 F26 F27 F28 hcs hsv (own_ch (own_c1 hb)) (own_c1 hb).1 hv hlt (Ne.symm (Nat.ne_of_lt lt_o_ad1_0)) (Ne.symm (Nat.ne_of_lt lt_o_ad1_1)) ne_e_o ne_t_o ne_ya_o (Ne.symm (Nat.ne_of_lt lt_ya_ad1_0)) (Ne.symm (Nat.ne_of_lt lt_ya_ad1_1)) ne_e_ya ne_t_ya) (by decide) (by decide) rfl rfl (by decide) (by decide) rfl pd_28Ljava2flang2fCharSequence3b29V rfl rfl rfl (Nat.le_of_ble_eq_true rfl) rfl ?_
        rintro h29 v29 ⟨rfl, K29, Fc29_0, Fc29_1, Fc29_2, Fc29_3, Fc29_4, Fc29_5, Fc29_6⟩
        have X30 : Ext h0 h29 := OwnW.ext_keep X2 K29 (allS z_o all0)
        have sz31 : n0 ≤ h29.size := Nat.le_trans sz3 K29.1
        show GoB0 l Z n0 OwnW.One1 h29 6 22 238 #[.val (.int p0), .val (.int p1), .val (.long p2), .second, .val (.int p3), .val (.int k), .val (.ref e), .val (.int b), .val (.int n), .val (.int c0), .val (.int c1), .val (.int c2), .val (.int c3), .val (.int c4), .val (.int c5), .val (.int c6), .val (.int c7), .val (.ref ya), .val (.ref o), .unset, .unset, .unset, .unset, .unset] []
        have F32 := (F25.keep K29 (ninS ne_e_o nin0))
        have F33 := (F26.keep K29)
        have F34 := (F27.keep K29 (ninS ne_e_o nin0))
        have F35 := (F28.keep K29 (ninS ne_t_o nin0))
        have F36 := ((Y_by.keep K1 nin0).keep K29 (ninS ne_ya_o nin0))
        exact OwnW.Go.more (by decide) (by decide) (parta2 l Z a0 hw p0 p1 p2 p3 k e b n c0 c1 c2 c3 c4 c5 c6 c7 o ya (((P <<< (b &&& 31)) ||| (f18 k c1))) ((hd + b)) cnt t cs sv h0 h29 n0 sz31 X30 g_o z_o g_ya z_ya Fc29_0 Fc29_1 Fc29_2 Fc29_3 Fc29_4 Fc29_5 Fc29_6 F32 F33 F34 F35 F36 S_CS S_SF ne_e_o ne_t_o ne_ya_o ne_e_ya ne_t_ya hcs hsv hk hb (own_Is1 hk hI hv hlt hc225) (own_Ys (i := 1) hk hI hY hlt))
      ·
        have F37 := (E_o.keep K1)
        have F38 := (F_al.keep K1 nin0)
        have F39 := (F_enc.keep K1 nin0)
        have F40 := (F_P.keep K1 nin0)
        have F41 := (F_hd.keep K1 nin0)
        have F42 := (F_by.keep K1 nin0)
        have F43 := (F_cnt.keep K1 nin0)
        have F44 := (F_b.keep K1 nin0)
        have F45 := (E_e.keep K1)
        have F46 := (F_t.keep K1 nin0)
        have F47 := (T_t.keep K1 nin0)
        have F48 := (Y_by.keep K1 nin0)
        refine OwnW.callV (a0 := a0) (pc' := 238) (W := 0) (k' := 6) (n' := 22) (argsL := [(.ref ad1_0)]) (rest := []) at_235 (hw _ (List.mem_of_getElem? (i := 48) rfl)) (hw _ (List.mem_of_getElem? (i := 49) rfl)) (hw _ (List.mem_of_getElem? (i := 51) rfl)) (hw _ (List.mem_of_getElem? (i := 50) rfl)) (hw _ (List.mem_of_getElem? (i := 11) rfl)) (hw _ (List.mem_of_getElem? (i := 52) rfl)) (by decide) F37 (rm8aa l Z a0 hw o ad1_0 cs ad1_1 kc1_0 (nar .byte (c1.toInt8.toInt32)) sv c1 P hd cnt e b k t ya h1 n0 sz3 g_o g_ya F37 F38 F39 F40 F41 F42 F43 Fc1_0 Fc1_2 Fc1_1 Fc1_3 (S_CS.ext X2) (S_SF.ext X2) F44 F45 F46 F47 F48 hcs hsv (own_ch (own_c1 hb)) (own_c1 hb).1 hv hlt (own_cnt hk hY) (Ne.symm (Nat.ne_of_lt lt_o_ad1_0)) (Ne.symm (Nat.ne_of_lt lt_o_ad1_1)) ne_e_o ne_t_o ne_ya_o (Ne.symm (Nat.ne_of_lt lt_ya_ad1_0)) (Ne.symm (Nat.ne_of_lt lt_ya_ad1_1)) ne_e_ya ne_t_ya) (by decide) (by decide) rfl rfl (by decide) (by decide) rfl pd_28Ljava2flang2fCharSequence3b29V rfl rfl rfl (Nat.le_of_ble_eq_true rfl) rfl ?_
        rintro h49 v49 ⟨rfl, K49, Fc49_0, Fc49_1, Fc49_2, Fc49_3, Fc49_4, Fc49_5, Fc49_6, Fc49_7⟩
        have X50 : Ext h0 h49 := OwnW.ext_keep X2 K49 (allS z_o (allS z_ya all0))
        have sz51 : n0 ≤ h49.size := Nat.le_trans sz3 K49.1
        show GoB0 l Z n0 OwnW.One1 h49 6 22 238 #[.val (.int p0), .val (.int p1), .val (.long p2), .second, .val (.int p3), .val (.int k), .val (.ref e), .val (.int b), .val (.int n), .val (.int c0), .val (.int c1), .val (.int c2), .val (.int c3), .val (.int c4), .val (.int c5), .val (.int c6), .val (.int c7), .val (.ref ya), .val (.ref o), .unset, .unset, .unset, .unset, .unset] []
        have F52 := (F44.keep K49 (ninS ne_e_o (ninS ne_e_ya nin0)))
        have F53 := (F45.keep K49)
        have F54 := (F46.keep K49 (ninS ne_e_o (ninS ne_e_ya nin0)))
        have F55 := (F47.keep K49 (ninS ne_t_o (ninS ne_t_ya nin0)))
        exact OwnW.Go.more (by decide) (by decide) (parta2 l Z a0 hw p0 p1 p2 p3 k e b n c0 c1 c2 c3 c4 c5 c6 c7 o ya ((((P <<< (b &&& 31)) ||| (f18 k c1)) &&& (((1 : Int32) <<< (((hd + b) - (8 : Int32)) &&& 31)) - (1 : Int32)))) (((hd + b) - (8 : Int32))) ((cnt + (1 : Int32))) t cs sv h0 h49 n0 sz51 X50 g_o z_o g_ya z_ya Fc49_0 Fc49_1 Fc49_2 Fc49_3 Fc49_4 Fc49_5 Fc49_6 F52 F53 F54 F55 Fc49_7 S_CS S_SF ne_e_o ne_t_o ne_ya_o ne_e_ya ne_t_ya hcs hsv hk hb (own_Il1 hk hI hv hlt hc225) (own_Yl (i := 1) hk hI hY hlt))
  ·
    refine OwnW.icmpY (pc' := 238) at_225 (flt hc225).2.2.2 (by decide) (by decide) ?_
    refine OwnW.iload (pc' := 240) at_238 rfl rfl ?_
    refine OwnW.iconst (pc' := 241) (v := (2 : Int32)) at_240 rfl rfl ?_
    refine OwnW.icmpY (pc' := 254) at_241 (flt (own_nlt hc225 (by decide))).2.2.2 (by decide) (by decide) ?_
    refine OwnW.iload (pc' := 256) at_254 rfl rfl ?_
    refine OwnW.iconst (pc' := 257) (v := (3 : Int32)) at_256 rfl rfl ?_
    refine OwnW.icmpY (pc' := 270) at_257 (flt (own_nlt hc225 (by decide))).2.2.2 (by decide) (by decide) ?_
    refine OwnW.iload (pc' := 272) at_270 rfl rfl ?_
    refine OwnW.iconst (pc' := 273) (v := (4 : Int32)) at_272 rfl rfl ?_
    refine OwnW.icmpY (pc' := 286) at_273 (flt (own_nlt hc225 (by decide))).2.2.2 (by decide) (by decide) ?_
    refine OwnW.iload (pc' := 288) at_286 rfl rfl ?_
    refine OwnW.iconst (pc' := 289) (v := (5 : Int32)) at_288 rfl rfl ?_
    refine OwnW.icmpY (pc' := 302) at_289 (flt (own_nlt hc225 (by decide))).2.2.2 (by decide) (by decide) ?_
    refine OwnW.iload (pc' := 304) at_302 rfl rfl ?_
    refine OwnW.bipush (pc' := 306) (v := (6 : Int32)) at_304 rfl rfl ?_
    refine OwnW.icmpY (pc' := 319) at_306 (flt (own_nlt hc225 (by decide))).2.2.2 (by decide) (by decide) ?_
    refine OwnW.iload (pc' := 321) at_319 rfl rfl ?_
    refine OwnW.bipush (pc' := 323) (v := (7 : Int32)) at_321 rfl rfl ?_
    refine OwnW.icmpY (pc' := 336) at_323 (flt (own_nlt hc225 (by decide))).2.2.2 (by decide) (by decide) ?_
    exact OwnW.Go.more (by decide) (by decide) (tailG l Z a0 hw p0 p1 p2 p3 k e b n c0 c1 c2 c3 c4 c5 c6 c7 o ((Value.ref ya)) P hd cs sv h0 hc n0 Z0 XB E_o F_al F_enc F_P F_hd F_b S_CS S_SF hk (own_Iend hI hc225))
set_option maxRecDepth 65536 in
set_option maxHeartbeats 400000000 in
theorem partn0 (l : Launch) (Z : State) (a0 : Array Value) (hw : ∀ d ∈ tables_1, d.before a0 Z = true) (p0 : Int32) (p1 : Int32) (p2 : Int64) (p3 : Int32) (k : Int32) (e : Addr) (b : Int32) (n : Int32) (c0 : Int32) (c1 : Int32) (c2 : Int32) (c3 : Int32) (c4 : Int32) (c5 : Int32) (c6 : Int32) (c7 : Int32) (o : Addr) (P : Int32) (hd : Int32) (cnt : Int32) (t : Addr) (cs : Int32) (sv : Value) (h0 hc : Heap) (n0 : Nat) (Z0 : n0 ≤ hc.size) (XB : Ext h0 hc) (g_o : n0 ≤ o) (z_o : h0.size ≤ o) (E_o : Exa Z hc o "com/example/plumbline/plumbline/BaseEncoding$Reading") (F_al : Fld Z hc o "com/example/plumbline/plumbline/BaseEncoding$Reading" "inAlphabet" "Z" (.int (1 : Int32))) (F_enc : Fld Z hc o "com/example/plumbline/plumbline/BaseEncoding$Reading" "encoding" "Lcom/example/plumbline/plumbline/BaseEncoding;" (.ref e)) (F_P : Fld Z hc o "com/example/plumbline/plumbline/BaseEncoding$Reading" "pending" "I" (.int P)) (F_hd : Fld Z hc o "com/example/plumbline/plumbline/BaseEncoding$Reading" "held" "I" (.int hd)) (F_by : Fld Z hc o "com/example/plumbline/plumbline/BaseEncoding$Reading" "bytes" "[B" .null) (F_cnt : Fld Z hc o "com/example/plumbline/plumbline/BaseEncoding$Reading" "count" "I" (.int cnt)) (F_b : Fld Z hc e "com/example/plumbline/plumbline/BaseEncoding" "bits" "I" (.int b)) (E_e : Exa Z hc e "com/example/plumbline/plumbline/BaseEncoding") (F_t : Fld Z hc e "com/example/plumbline/plumbline/BaseEncoding" "values" "[I" (.ref t)) (T_t : Tab Z hc t k) (S_CS : Sta Z h0 "java/lang/String" "COMPACT_STRINGS" "Z" (.int cs)) (S_SF : Sta Z h0 "jdk/internal/util/Preconditions" "SIOOBE_FORMATTER" "Ljava/util/function/BiFunction;" sv) (ne_e_o : e ≠ o) (ne_t_o : t ≠ o) (hcs : ¬ cs = (0 : Int32)) (hsv : sv.isRef = true) (hk : own_K k b) (hb : own_C c0 c1 c2 c3 c4 c5 c6 c7) (hI : own_I 0 k b n hd P c0 c1 c2 c3 c4 c5 c6 c7) :
    GoB0 l Z n0 OwnW.One1 hc 2 12 207 #[.val (.int p0), .val (.int p1), .val (.long p2), .second, .val (.int p3), .val (.int k), .val (.ref e), .val (.int b), .val (.int n), .val (.int c0), .val (.int c1), .val (.int c2), .val (.int c3), .val (.int c4), .val (.int c5), .val (.int c6), .val (.int c7), .val .null, .val (.ref o), .unset, .unset, .unset, .unset, .unset] [] := by
  refine OwnW.iload (pc' := 209) at_207 rfl rfl ?_
  by_cases hc209 : (0 : Int32) < n
  ·
    refine OwnW.ifcN (pc' := 212) at_209 ((if0 _ _).trans (tlt hc209).2.2.2) rfl ?_
    refine OwnW.aload (pc' := 214) at_212 rfl (rfl) rfl ?_
    refine OwnW.iload (pc' := 216) at_214 rfl rfl ?_
    refine OwnW.callS (a0 := a0) (pc' := 219) (W := 1) (k' := 4) (n' := 17) (argsL := [(.int c0)]) (rest := [(.ref o)]) at_216 (hw _ (List.mem_of_getElem? (i := 24) rfl)) (hw _ (List.mem_of_getElem? (i := 25) rfl)) (hw _ (List.mem_of_getElem? (i := 26) rfl)) (hw _ (List.mem_of_getElem? (i := 27) rfl)) (by decide) (rm4 l Z a0 hw c0 cs hc n0 Z0 (S_CS.ext XB) hcs (own_c0 hb).2) (by decide) (by decide) rfl rfl (by decide) (by decide) rfl pd_28C29Ljava2flang2fString3b rfl rfl rfl (Nat.le_of_ble_eq_true rfl) rfl ?_
    rintro h1 v1 ⟨ad1_0, ad1_1, kc1_0, rfl, K1, gl1_0, gl1_1, nn1_0_1, Fc1_0, Fc1_1, Fc1_2, Fc1_3⟩
    have lt_o_ad1_0 : @LT.lt Nat _ o ad1_0 := Nat.lt_of_lt_of_le (E_o).lt gl1_0
    have lt_e_ad1_0 : @LT.lt Nat _ e ad1_0 := Nat.lt_of_lt_of_le (E_e).lt gl1_0
    have lt_t_ad1_0 : @LT.lt Nat _ t ad1_0 := Nat.lt_of_lt_of_le (T_t).lt gl1_0
    have ge_ad1_0 : n0 ≤ ad1_0 := Nat.le_trans Z0 gl1_0
    have lt_o_ad1_1 : @LT.lt Nat _ o ad1_1 := Nat.lt_of_lt_of_le (E_o).lt gl1_1
    have lt_e_ad1_1 : @LT.lt Nat _ e ad1_1 := Nat.lt_of_lt_of_le (E_e).lt gl1_1
    have lt_t_ad1_1 : @LT.lt Nat _ t ad1_1 := Nat.lt_of_lt_of_le (T_t).lt gl1_1
    have ge_ad1_1 : n0 ≤ ad1_1 := Nat.le_trans Z0 gl1_1
    have X2 : Ext h0 h1 := OwnW.ext_keep XB K1 all0
    have sz3 : n0 ≤ h1.size := Nat.le_trans Z0 K1.1
    show GoB0 l Z n0 OwnW.One1 h1 4 17 219 #[.val (.int p0), .val (.int p1), .val (.long p2), .second, .val (.int p3), .val (.int k), .val (.ref e), .val (.int b), .val (.int n), .val (.int c0), .val (.int c1), .val (.int c2), .val (.int c3), .val (.int c4), .val (.int c5), .val (.int c6), .val (.int c7), .val .null, .val (.ref o), .unset, .unset, .unset, .unset, .unset] [(.ref ad1_0), (.ref o)]
    by_cases hv : (f18 k c0) < (0 : Int32)
    ·
      have F4 := (E_o.keep K1)
      have F5 := (F_al.keep K1 nin0)
      have F6 := (F_enc.keep K1 nin0)
      have F7 := (F_P.keep K1 nin0)
      have F8 := (F_hd.keep K1 nin0)
      have F9 := (F_by.keep K1 nin0)
      have F10 := (F_cnt.keep K1 nin0)
      have F11 := (F_b.keep K1 nin0)
      have F12 := (E_e.keep K1)
      have F13 := (F_t.keep K1 nin0)
      have F14 := (T_t.keep K1 nin0)
      refine OwnW.callV (a0 := a0) (pc' := 222) (W := 0) (k' := 4) (n' := 17) (argsL := [(.ref ad1_0)]) (rest := []) at_219 (hw _ (List.mem_of_getElem? (i := 48) rfl)) (hw _ (List.mem_of_getElem? (i := 49) rfl)) (hw _ (List.mem_of_getElem? (i := 51) rfl)) (hw _ (List.mem_of_getElem? (i := 50) rfl)) (hw _ (List.mem_of_getElem? (i := 11) rfl)) (hw _ (List.mem_of_getElem? (i := 52) rfl)) (by decide) F4 (rm8xn l Z a0 hw o ad1_0 cs ad1_1 kc1_0 (nar .byte (c0.toInt8.toInt32)) sv c0 P hd cnt e b k t h1 n0 sz3 g_o F4 F5 F6 F7 F8 F9 F10 Fc1_0 Fc1_2 Fc1_1 Fc1_3 (S_CS.ext X2) (S_SF.ext X2) F11 F12 F13 F14 hcs hsv (own_ch (own_c0 hb)) (own_c0 hb).1 hv (Ne.symm (Nat.ne_of_lt lt_o_ad1_0)) (Ne.symm (Nat.ne_of_lt lt_o_ad1_1)) ne_e_o ne_t_o) (by decide) (by decide) rfl rfl (by decide) (by decide) rfl pd_28Ljava2flang2fCharSequence3b29V rfl rfl rfl (Nat.le_of_ble_eq_true rfl) rfl ?_
      rintro h15 v15 ⟨rfl, K15, Fc15_0, Fc15_1⟩
      have X16 : Ext h0 h15 := OwnW.ext_keep X2 K15 (allS z_o all0)
      have sz17 : n0 ≤ h15.size := Nat.le_trans sz3 K15.1
      show GoB0 l Z n0 OwnW.One1 h15 4 17 222 #[.val (.int p0), .val (.int p1), .val (.long p2), .second, .val (.int p3), .val (.int k), .val (.ref e), .val (.int b), .val (.int n), .val (.int c0), .val (.int c1), .val (.int c2), .val (.int c3), .val (.int c4), .val (.int c5), .val (.int c6), .val (.int c7), .val .null, .val (.ref o), .unset, .unset, .unset, .unset, .unset] []
      exact OwnW.Go.more (by decide) (by decide) (partz1 l Z a0 hw p0 p1 p2 p3 k e b n c0 c1 c2 c3 c4 c5 c6 c7 o Value.null cs sv h0 h15 n0 sz17 X16 g_o z_o Fc15_0 Fc15_1 S_CS S_SF hcs hsv hk hb (own_B0 hv hc209))
    ·
      by_cases hlt : (hd + b) < (8 : Int32)
      ·
        have F18 := (E_o.keep K1)
        have F19 := (F_al.keep K1 nin0)
        have F20 := (F_enc.keep K1 nin0)
        have F21 := (F_P.keep K1 nin0)
        have F22 := (F_hd.keep K1 nin0)
        have F23 := (F_by.keep K1 nin0)
        have F24 := (F_cnt.keep K1 nin0)
        have F25 := (F_b.keep K1 nin0)
        have F26 := (E_e.keep K1)
        have F27 := (F_t.keep K1 nin0)
        have F28 := (T_t.keep K1 nin0)
        refine OwnW.callV (a0 := a0) (pc' := 222) (W := 0) (k' := 4) (n' := 17) (argsL := [(.ref ad1_0)]) (rest := []) at_219 (hw _ (List.mem_of_getElem? (i := 48) rfl)) (hw _ (List.mem_of_getElem? (i := 49) rfl)) (hw _ (List.mem_of_getElem? (i := 51) rfl)) (hw _ (List.mem_of_getElem? (i := 50) rfl)) (hw _ (List.mem_of_getElem? (i := 11) rfl)) (hw _ (List.mem_of_getElem? (i := 52) rfl)) (by decide) F18 (rm8sn l Z a0 hw o ad1_0 cs ad1_1 kc1_0 (nar .byte (c0.toInt8.toInt32)) sv c0 P hd cnt e b k t h1 n0 sz3 g_o F18 F19 F20 F21 F22 F23 F24 Fc1_0 Fc1_2 Fc1_1 Fc1_3 (S_CS.ext X2) (S_SF.ext X2) F25 F26 F27 F28 hcs hsv (own_ch (own_c0 hb)) (own_c0 hb).1 hv hlt (Ne.symm (Nat.ne_of_lt lt_o_ad1_0)) (Ne.symm (Nat.ne_of_lt lt_o_ad1_1)) ne_e_o ne_t_o) (by decide) (by decide) rfl rfl (by decide) (by decide) rfl pd_28Ljava2flang2fCharSequence3b29V rfl rfl rfl (Nat.le_of_ble_eq_true rfl) rfl ?_
        rintro h29 v29 ⟨rfl, K29, Fc29_0, Fc29_1, Fc29_2, Fc29_3, Fc29_4, Fc29_5, Fc29_6⟩
        have X30 : Ext h0 h29 := OwnW.ext_keep X2 K29 (allS z_o all0)
        have sz31 : n0 ≤ h29.size := Nat.le_trans sz3 K29.1
        show GoB0 l Z n0 OwnW.One1 h29 4 17 222 #[.val (.int p0), .val (.int p1), .val (.long p2), .second, .val (.int p3), .val (.int k), .val (.ref e), .val (.int b), .val (.int n), .val (.int c0), .val (.int c1), .val (.int c2), .val (.int c3), .val (.int c4), .val (.int c5), .val (.int c6), .val (.int c7), .val .null, .val (.ref o), .unset, .unset, .unset, .unset, .unset] []
        have F32 := (F25.keep K29 (ninS ne_e_o nin0))
        have F33 := (F26.keep K29)
        have F34 := (F27.keep K29 (ninS ne_e_o nin0))
        have F35 := (F28.keep K29 (ninS ne_t_o nin0))
        exact OwnW.Go.more (by decide) (by decide) (partn1 l Z a0 hw p0 p1 p2 p3 k e b n c0 c1 c2 c3 c4 c5 c6 c7 o (((P <<< (b &&& 31)) ||| (f18 k c0))) ((hd + b)) cnt t cs sv h0 h29 n0 sz31 X30 g_o z_o Fc29_0 Fc29_1 Fc29_2 Fc29_3 Fc29_4 Fc29_5 Fc29_6 F32 F33 F34 F35 S_CS S_SF ne_e_o ne_t_o hcs hsv hk hb (own_Is0 hk hI hv hlt hc209))
      ·
        have F36 := (E_o.keep K1)
        have F37 := (F_al.keep K1 nin0)
        have F38 := (F_enc.keep K1 nin0)
        have F39 := (F_P.keep K1 nin0)
        have F40 := (F_hd.keep K1 nin0)
        have F41 := (F_by.keep K1 nin0)
        have F42 := (F_cnt.keep K1 nin0)
        have F43 := (F_b.keep K1 nin0)
        have F44 := (E_e.keep K1)
        have F45 := (F_t.keep K1 nin0)
        have F46 := (T_t.keep K1 nin0)
        refine OwnW.callV (a0 := a0) (pc' := 222) (W := 0) (k' := 4) (n' := 17) (argsL := [(.ref ad1_0)]) (rest := []) at_219 (hw _ (List.mem_of_getElem? (i := 48) rfl)) (hw _ (List.mem_of_getElem? (i := 49) rfl)) (hw _ (List.mem_of_getElem? (i := 51) rfl)) (hw _ (List.mem_of_getElem? (i := 50) rfl)) (hw _ (List.mem_of_getElem? (i := 11) rfl)) (hw _ (List.mem_of_getElem? (i := 52) rfl)) (by decide) F36 (rm8nn l Z a0 hw o ad1_0 cs ad1_1 kc1_0 (nar .byte (c0.toInt8.toInt32)) sv c0 P hd cnt e b k t h1 n0 sz3 g_o F36 F37 F38 F39 F40 F41 F42 Fc1_0 Fc1_2 Fc1_1 Fc1_3 (S_CS.ext X2) (S_SF.ext X2) F43 F44 F45 F46 hcs hsv (own_ch (own_c0 hb)) (own_c0 hb).1 hv hlt (Ne.symm (Nat.ne_of_lt lt_o_ad1_0)) (Ne.symm (Nat.ne_of_lt lt_o_ad1_1)) ne_e_o ne_t_o) (by decide) (by decide) rfl rfl (by decide) (by decide) rfl pd_28Ljava2flang2fCharSequence3b29V rfl rfl rfl (Nat.le_of_ble_eq_true rfl) rfl ?_
        rintro h47 v47 ⟨rfl, K47, Fc47_0, Fc47_1, Fc47_2, Fc47_3, Fc47_4, Fc47_5, Fc47_6⟩
        have X48 : Ext h0 h47 := OwnW.ext_keep X2 K47 (allS z_o all0)
        have sz49 : n0 ≤ h47.size := Nat.le_trans sz3 K47.1
        show GoB0 l Z n0 OwnW.One1 h47 4 17 222 #[.val (.int p0), .val (.int p1), .val (.long p2), .second, .val (.int p3), .val (.int k), .val (.ref e), .val (.int b), .val (.int n), .val (.int c0), .val (.int c1), .val (.int c2), .val (.int c3), .val (.int c4), .val (.int c5), .val (.int c6), .val (.int c7), .val .null, .val (.ref o), .unset, .unset, .unset, .unset, .unset] []
        have F50 := (F43.keep K47 (ninS ne_e_o nin0))
        have F51 := (F44.keep K47)
        have F52 := (F45.keep K47 (ninS ne_e_o nin0))
        have F53 := (F46.keep K47 (ninS ne_t_o nin0))
        exact OwnW.Go.more (by decide) (by decide) (partn1 l Z a0 hw p0 p1 p2 p3 k e b n c0 c1 c2 c3 c4 c5 c6 c7 o ((((P <<< (b &&& 31)) ||| (f18 k c0)) &&& (((1 : Int32) <<< (((hd + b) - (8 : Int32)) &&& 31)) - (1 : Int32)))) (((hd + b) - (8 : Int32))) cnt t cs sv h0 h47 n0 sz49 X48 g_o z_o Fc47_0 Fc47_1 Fc47_2 Fc47_3 Fc47_4 Fc47_5 Fc47_6 F50 F51 F52 F53 S_CS S_SF ne_e_o ne_t_o hcs hsv hk hb (own_Il0 hk hI hv hlt hc209))
  ·
    refine OwnW.ifcY (pc' := 222) at_209 ((if0 _ _).trans (flt hc209).2.2.2) (by decide) (by decide) ?_
    refine OwnW.iload (pc' := 224) at_222 rfl rfl ?_
    refine OwnW.iconst (pc' := 225) (v := (1 : Int32)) at_224 rfl rfl ?_
    refine OwnW.icmpY (pc' := 238) at_225 (flt (own_nlt hc209 (by decide))).2.2.2 (by decide) (by decide) ?_
    refine OwnW.iload (pc' := 240) at_238 rfl rfl ?_
    refine OwnW.iconst (pc' := 241) (v := (2 : Int32)) at_240 rfl rfl ?_
    refine OwnW.icmpY (pc' := 254) at_241 (flt (own_nlt hc209 (by decide))).2.2.2 (by decide) (by decide) ?_
    refine OwnW.iload (pc' := 256) at_254 rfl rfl ?_
    refine OwnW.iconst (pc' := 257) (v := (3 : Int32)) at_256 rfl rfl ?_
    refine OwnW.icmpY (pc' := 270) at_257 (flt (own_nlt hc209 (by decide))).2.2.2 (by decide) (by decide) ?_
    refine OwnW.iload (pc' := 272) at_270 rfl rfl ?_
    refine OwnW.iconst (pc' := 273) (v := (4 : Int32)) at_272 rfl rfl ?_
    refine OwnW.icmpY (pc' := 286) at_273 (flt (own_nlt hc209 (by decide))).2.2.2 (by decide) (by decide) ?_
    refine OwnW.iload (pc' := 288) at_286 rfl rfl ?_
    refine OwnW.iconst (pc' := 289) (v := (5 : Int32)) at_288 rfl rfl ?_
    refine OwnW.icmpY (pc' := 302) at_289 (flt (own_nlt hc209 (by decide))).2.2.2 (by decide) (by decide) ?_
    refine OwnW.iload (pc' := 304) at_302 rfl rfl ?_
    refine OwnW.bipush (pc' := 306) (v := (6 : Int32)) at_304 rfl rfl ?_
    refine OwnW.icmpY (pc' := 319) at_306 (flt (own_nlt hc209 (by decide))).2.2.2 (by decide) (by decide) ?_
    refine OwnW.iload (pc' := 321) at_319 rfl rfl ?_
    refine OwnW.bipush (pc' := 323) (v := (7 : Int32)) at_321 rfl rfl ?_
    refine OwnW.icmpY (pc' := 336) at_323 (flt (own_nlt hc209 (by decide))).2.2.2 (by decide) (by decide) ?_
    exact OwnW.Go.more (by decide) (by decide) (tailG l Z a0 hw p0 p1 p2 p3 k e b n c0 c1 c2 c3 c4 c5 c6 c7 o Value.null P hd cs sv h0 hc n0 Z0 XB E_o F_al F_enc F_P F_hd F_b S_CS S_SF hk (own_Iend hI hc209))
set_option maxRecDepth 65536 in
set_option maxHeartbeats 400000000 in
theorem parta0 (l : Launch) (Z : State) (a0 : Array Value) (hw : ∀ d ∈ tables_1, d.before a0 Z = true) (p0 : Int32) (p1 : Int32) (p2 : Int64) (p3 : Int32) (k : Int32) (e : Addr) (b : Int32) (n : Int32) (c0 : Int32) (c1 : Int32) (c2 : Int32) (c3 : Int32) (c4 : Int32) (c5 : Int32) (c6 : Int32) (c7 : Int32) (o : Addr) (ya : Addr) (P : Int32) (hd : Int32) (cnt : Int32) (t : Addr) (cs : Int32) (sv : Value) (h0 hc : Heap) (n0 : Nat) (Z0 : n0 ≤ hc.size) (XB : Ext h0 hc) (g_o : n0 ≤ o) (z_o : h0.size ≤ o) (g_ya : n0 ≤ ya) (z_ya : h0.size ≤ ya) (E_o : Exa Z hc o "com/example/plumbline/plumbline/BaseEncoding$Reading") (F_al : Fld Z hc o "com/example/plumbline/plumbline/BaseEncoding$Reading" "inAlphabet" "Z" (.int (1 : Int32))) (F_enc : Fld Z hc o "com/example/plumbline/plumbline/BaseEncoding$Reading" "encoding" "Lcom/example/plumbline/plumbline/BaseEncoding;" (.ref e)) (F_P : Fld Z hc o "com/example/plumbline/plumbline/BaseEncoding$Reading" "pending" "I" (.int P)) (F_hd : Fld Z hc o "com/example/plumbline/plumbline/BaseEncoding$Reading" "held" "I" (.int hd)) (F_by : Fld Z hc o "com/example/plumbline/plumbline/BaseEncoding$Reading" "bytes" "[B" (.ref ya)) (F_cnt : Fld Z hc o "com/example/plumbline/plumbline/BaseEncoding$Reading" "count" "I" (.int cnt)) (F_b : Fld Z hc e "com/example/plumbline/plumbline/BaseEncoding" "bits" "I" (.int b)) (E_e : Exa Z hc e "com/example/plumbline/plumbline/BaseEncoding") (F_t : Fld Z hc e "com/example/plumbline/plumbline/BaseEncoding" "values" "[I" (.ref t)) (T_t : Tab Z hc t k) (Y_by : Byt Z hc ya) (S_CS : Sta Z h0 "java/lang/String" "COMPACT_STRINGS" "Z" (.int cs)) (S_SF : Sta Z h0 "jdk/internal/util/Preconditions" "SIOOBE_FORMATTER" "Ljava/util/function/BiFunction;" sv) (ne_e_o : e ≠ o) (ne_t_o : t ≠ o) (ne_ya_o : ya ≠ o) (ne_e_ya : e ≠ ya) (ne_t_ya : t ≠ ya) (hcs : ¬ cs = (0 : Int32)) (hsv : sv.isRef = true) (hk : own_K k b) (hb : own_C c0 c1 c2 c3 c4 c5 c6 c7) (hI : own_I 0 k b n hd P c0 c1 c2 c3 c4 c5 c6 c7) (hY : own_Y 0 b cnt) :
    GoB0 l Z n0 OwnW.One1 hc 2 12 207 #[.val (.int p0), .val (.int p1), .val (.long p2), .second, .val (.int p3), .val (.int k), .val (.ref e), .val (.int b), .val (.int n), .val (.int c0), .val (.int c1), .val (.int c2), .val (.int c3), .val (.int c4), .val (.int c5), .val (.int c6), .val (.int c7), .val (.ref ya), .val (.ref o), .unset, .unset, .unset, .unset, .unset] [] := by
  refine OwnW.iload (pc' := 209) at_207 rfl rfl ?_
  by_cases hc209 : (0 : Int32) < n
  ·
    refine OwnW.ifcN (pc' := 212) at_209 ((if0 _ _).trans (tlt hc209).2.2.2) rfl ?_
    refine OwnW.aload (pc' := 214) at_212 rfl (rfl) rfl ?_
    refine OwnW.iload (pc' := 216) at_214 rfl rfl ?_
    refine OwnW.callS (a0 := a0) (pc' := 219) (W := 1) (k' := 4) (n' := 17) (argsL := [(.int c0)]) (rest := [(.ref o)]) at_216 (hw _ (List.mem_of_getElem? (i := 24) rfl)) (hw _ (List.mem_of_getElem? (i := 25) rfl)) (hw _ (List.mem_of_getElem? (i := 26) rfl)) (hw _ (List.mem_of_getElem? (i := 27) rfl)) (by decide) (rm4 l Z a0 hw c0 cs hc n0 Z0 (S_CS.ext XB) hcs (own_c0 hb).2) (by decide) (by decide) rfl rfl (by decide) (by decide) rfl pd_28C29Ljava2flang2fString3b rfl rfl rfl (Nat.le_of_ble_eq_true rfl) rfl ?_
    rintro h1 v1 ⟨ad1_0, ad1_1, kc1_0, rfl, K1, gl1_0, gl1_1, nn1_0_1, Fc1_0, Fc1_1, Fc1_2, Fc1_3⟩
    have lt_o_ad1_0 : @LT.lt Nat _ o ad1_0 := Nat.lt_of_lt_of_le (E_o).lt gl1_0
    have lt_e_ad1_0 : @LT.lt Nat _ e ad1_0 := Nat.lt_of_lt_of_le (E_e).lt gl1_0
    have lt_t_ad1_0 : @LT.lt Nat _ t ad1_0 := Nat.lt_of_lt_of_le (T_t).lt gl1_0
    have lt_ya_ad1_0 : @LT.lt Nat _ ya ad1_0 := Nat.lt_of_lt_of_le (Y_by).lt gl1_0
    have ge_ad1_0 : n0 ≤ ad1_0 := Nat.le_trans Z0 gl1_0
    have lt_o_ad1_1 : @LT.lt Nat _ o ad1_1 := Nat.lt_of_lt_of_le (E_o).lt gl1_1
    have lt_e_ad1_1 : @LT.lt Nat _ e ad1_1 := Nat.lt_of_lt_of_le (E_e).lt gl1_1
    have lt_t_ad1_1 : @LT.lt Nat _ t ad1_1 := Nat.lt_of_lt_of_le (T_t).lt gl1_1
    have lt_ya_ad1_1 : @LT.lt Nat _ ya ad1_1 := Nat.lt_of_lt_of_le (Y_by).lt gl1_1
    have ge_ad1_1 : n0 ≤ ad1_1 := Nat.le_trans Z0 gl1_1
    have X2 : Ext h0 h1 := OwnW.ext_keep XB K1 all0
    have sz3 : n0 ≤ h1.size := Nat.le_trans Z0 K1.1
    show GoB0 l Z n0 OwnW.One1 h1 4 17 219 #[.val (.int p0), .val (.int p1), .val (.long p2), .second, .val (.int p3), .val (.int k), .val (.ref e), .val (.int b), .val (.int n), .val (.int c0), .val (.int c1), .val (.int c2), .val (.int c3), .val (.int c4), .val (.int c5), .val (.int c6), .val (.int c7), .val (.ref ya), .val (.ref o), .unset, .unset, .unset, .unset, .unset] [(.ref ad1_0), (.ref o)]
    by_cases hv : (f18 k c0) < (0 : Int32)
    ·
      have F4 := (E_o.keep K1)
      have F5 := (F_al.keep K1 nin0)
      have F6 := (F_enc.keep K1 nin0)
      have F7 := (F_P.keep K1 nin0)
      have F8 := (F_hd.keep K1 nin0)
      have F9 := (F_by.keep K1 nin0)
      have F10 := (F_cnt.keep K1 nin0)
      have F11 := (F_b.keep K1 nin0)
      have F12 := (E_e.keep K1)
      have F13 := (F_t.keep K1 nin0)
      have F14 := (T_t.keep K1 nin0)
      refine OwnW.callV (a0 := a0) (pc' := 222) (W := 0) (k' := 4) (n' := 17) (argsL := [(.ref ad1_0)]) (rest := []) at_219 (hw _ (List.mem_of_getElem? (i := 48) rfl)) (hw _ (List.mem_of_getElem? (i := 49) rfl)) (hw _ (List.mem_of_getElem? (i := 51) rfl)) (hw _ (List.mem_of_getElem? (i := 50) rfl)) (hw _ (List.mem_of_getElem? (i := 11) rfl)) (hw _ (List.mem_of_getElem? (i := 52) rfl)) (by decide) F4 (rm8xa l Z a0 hw o ad1_0 cs ad1_1 kc1_0 (nar .byte (c0.toInt8.toInt32)) sv c0 P hd cnt e b k t ya h1 n0 sz3 g_o F4 F5 F6 F7 F8 F9 F10 Fc1_0 Fc1_2 Fc1_1 Fc1_3 (S_CS.ext X2) (S_SF.ext X2) F11 F12 F13 F14 hcs hsv (own_ch (own_c0 hb)) (own_c0 hb).1 hv (Ne.symm (Nat.ne_of_lt lt_o_ad1_0)) (Ne.symm (Nat.ne_of_lt lt_o_ad1_1)) ne_e_o ne_t_o ne_ya_o (Ne.symm (Nat.ne_of_lt lt_ya_ad1_0)) (Ne.symm (Nat.ne_of_lt lt_ya_ad1_1)) ne_e_ya ne_t_ya) (by decide) (by decide) rfl rfl (by decide) (by decide) rfl pd_28Ljava2flang2fCharSequence3b29V rfl rfl rfl (Nat.le_of_ble_eq_true rfl) rfl ?_
      rintro h15 v15 ⟨rfl, K15, Fc15_0, Fc15_1⟩
      have X16 : Ext h0 h15 := OwnW.ext_keep X2 K15 (allS z_o all0)
      have sz17 : n0 ≤ h15.size := Nat.le_trans sz3 K15.1
      show GoB0 l Z n0 OwnW.One1 h15 4 17 222 #[.val (.int p0), .val (.int p1), .val (.long p2), .second, .val (.int p3), .val (.int k), .val (.ref e), .val (.int b), .val (.int n), .val (.int c0), .val (.int c1), .val (.int c2), .val (.int c3), .val (.int c4), .val (.int c5), .val (.int c6), .val (.int c7), .val (.ref ya), .val (.ref o), .unset, .unset, .unset, .unset, .unset] []
      exact OwnW.Go.more (by decide) (by decide) (partz1 l Z a0 hw p0 p1 p2 p3 k e b n c0 c1 c2 c3 c4 c5 c6 c7 o ((Value.ref ya)) cs sv h0 h15 n0 sz17 X16 g_o z_o Fc15_0 Fc15_1 S_CS S_SF hcs hsv hk hb (own_B0 hv hc209))
    ·
      by_cases hlt : (hd + b) < (8 : Int32)
      ·
        have F18 := (E_o.keep K1)
        have F19 := (F_al.keep K1 nin0)
        have F20 := (F_enc.keep K1 nin0)
        have F21 := (F_P.keep K1 nin0)
        have F22 := (F_hd.keep K1 nin0)
        have F23 := (F_by.keep K1 nin0)
        have F24 := (F_cnt.keep K1 nin0)
        have F25 := (F_b.keep K1 nin0)
        have F26 := (E_e.keep K1)
        have F27 := (F_t.keep K1 nin0)
        have F28 := (T_t.keep K1 nin0)
        refine OwnW.callV (a0 := a0) (pc' := 222) (W := 0) (k' := 4) (n' := 17) (argsL := [(.ref ad1_0)]) (rest := []) at_219 (hw _ (List.mem_of_getElem? (i := 48) rfl)) (hw _ (List.mem_of_getElem? (i := 49) rfl)) (hw _ (List.mem_of_getElem? (i := 51) rfl)) (hw _ (List.mem_of_getElem? (i := 50) rfl)) (hw _ (List.mem_of_getElem? (i := 11) rfl)) (hw _ (List.mem_of_getElem? (i := 52) rfl)) (by decide) F18 (rm8sa l Z a0 hw o ad1_0 cs ad1_1 kc1_0 (nar .byte (c0.toInt8.toInt32)) sv c0 P hd cnt e b k t ya h1 n0 sz3 g_o F18 F19 F20 F21 F22 F23 F24 Fc1_0 Fc1_2 Fc1_1 Fc1_3 (S_CS.ext X2) (S_SF.ext X2) F25 F26 F27 F28 hcs hsv (own_ch (own_c0 hb)) (own_c0 hb).1 hv hlt (Ne.symm (Nat.ne_of_lt lt_o_ad1_0)) (Ne.symm (Nat.ne_of_lt lt_o_ad1_1)) ne_e_o ne_t_o ne_ya_o (Ne.symm (Nat.ne_of_lt lt_ya_ad1_0)) (Ne.symm (Nat.ne_of_lt lt_ya_ad1_1)) ne_e_ya ne_t_ya) (by decide) (by decide) rfl rfl (by decide) (by decide) rfl pd_28Ljava2flang2fCharSequence3b29V rfl rfl rfl (Nat.le_of_ble_eq_true rfl) rfl ?_
        rintro h29 v29 ⟨rfl, K29, Fc29_0, Fc29_1, Fc29_2, Fc29_3, Fc29_4, Fc29_5, Fc29_6⟩
        have X30 : Ext h0 h29 := OwnW.ext_keep X2 K29 (allS z_o all0)
        have sz31 : n0 ≤ h29.size := Nat.le_trans sz3 K29.1
        show GoB0 l Z n0 OwnW.One1 h29 4 17 222 #[.val (.int p0), .val (.int p1), .val (.long p2), .second, .val (.int p3), .val (.int k), .val (.ref e), .val (.int b), .val (.int n), .val (.int c0), .val (.int c1), .val (.int c2), .val (.int c3), .val (.int c4), .val (.int c5), .val (.int c6), .val (.int c7), .val (.ref ya), .val (.ref o), .unset, .unset, .unset, .unset, .unset] []
        have F32 := (F25.keep K29 (ninS ne_e_o nin0))
        have F33 := (F26.keep K29)
        have F34 := (F27.keep K29 (ninS ne_e_o nin0))
        have F35 := (F28.keep K29 (ninS ne_t_o nin0))
        have F36 := ((Y_by.keep K1 nin0).keep K29 (ninS ne_ya_o nin0))
        exact OwnW.Go.more (by decide) (by decide) (parta1 l Z a0 hw p0 p1 p2 p3 k e b n c0 c1 c2 c3 c4 c5 c6 c7 o ya (((P <<< (b &&& 31)) ||| (f18 k c0))) ((hd + b)) cnt t cs sv h0 h29 n0 sz31 X30 g_o z_o g_ya z_ya Fc29_0 Fc29_1 Fc29_2 Fc29_3 Fc29_4 Fc29_5 Fc29_6 F32 F33 F34 F35 F36 S_CS S_SF ne_e_o ne_t_o ne_ya_o ne_e_ya ne_t_ya hcs hsv hk hb (own_Is0 hk hI hv hlt hc209) (own_Ys (i := 0) hk hI hY hlt))
      ·
        have F37 := (E_o.keep K1)
        have F38 := (F_al.keep K1 nin0)
        have F39 := (F_enc.keep K1 nin0)
        have F40 := (F_P.keep K1 nin0)
        have F41 := (F_hd.keep K1 nin0)
        have F42 := (F_by.keep K1 nin0)
        have F43 := (F_cnt.keep K1 nin0)
        have F44 := (F_b.keep K1 nin0)
        have F45 := (E_e.keep K1)
        have F46 := (F_t.keep K1 nin0)
        have F47 := (T_t.keep K1 nin0)
        have F48 := (Y_by.keep K1 nin0)
        refine OwnW.callV (a0 := a0) (pc' := 222) (W := 0) (k' := 4) (n' := 17) (argsL := [(.ref ad1_0)]) (rest := []) at_219 (hw _ (List.mem_of_getElem? (i := 48) rfl)) (hw _ (List.mem_of_getElem? (i := 49) rfl)) (hw _ (List.mem_of_getElem? (i := 51) rfl)) (hw _ (List.mem_of_getElem? (i := 50) rfl)) (hw _ (List.mem_of_getElem? (i := 11) rfl)) (hw _ (List.mem_of_getElem? (i := 52) rfl)) (by decide) F37 (rm8aa l Z a0 hw o ad1_0 cs ad1_1 kc1_0 (nar .byte (c0.toInt8.toInt32)) sv c0 P hd cnt e b k t ya h1 n0 sz3 g_o g_ya F37 F38 F39 F40 F41 F42 F43 Fc1_0 Fc1_2 Fc1_1 Fc1_3 (S_CS.ext X2) (S_SF.ext X2) F44 F45 F46 F47 F48 hcs hsv (own_ch (own_c0 hb)) (own_c0 hb).1 hv hlt (own_cnt hk hY) (Ne.symm (Nat.ne_of_lt lt_o_ad1_0)) (Ne.symm (Nat.ne_of_lt lt_o_ad1_1)) ne_e_o ne_t_o ne_ya_o (Ne.symm (Nat.ne_of_lt lt_ya_ad1_0)) (Ne.symm (Nat.ne_of_lt lt_ya_ad1_1)) ne_e_ya ne_t_ya) (by decide) (by decide) rfl rfl (by decide) (by decide) rfl pd_28Ljava2flang2fCharSequence3b29V rfl rfl rfl (Nat.le_of_ble_eq_true rfl) rfl ?_
        rintro h49 v49 ⟨rfl, K49, Fc49_0, Fc49_1, Fc49_2, Fc49_3, Fc49_4, Fc49_5, Fc49_6, Fc49_7⟩
        have X50 : Ext h0 h49 := OwnW.ext_keep X2 K49 (allS z_o (allS z_ya all0))
        have sz51 : n0 ≤ h49.size := Nat.le_trans sz3 K49.1
        show GoB0 l Z n0 OwnW.One1 h49 4 17 222 #[.val (.int p0), .val (.int p1), .val (.long p2), .second, .val (.int p3), .val (.int k), .val (.ref e), .val (.int b), .val (.int n), .val (.int c0), .val (.int c1), .val (.int c2), .val (.int c3), .val (.int c4), .val (.int c5), .val (.int c6), .val (.int c7), .val (.ref ya), .val (.ref o), .unset, .unset, .unset, .unset, .unset] []
        have F52 := (F44.keep K49 (ninS ne_e_o (ninS ne_e_ya nin0)))
        have F53 := (F45.keep K49)
        have F54 := (F46.keep K49 (ninS ne_e_o (ninS ne_e_ya nin0)))
        have F55 := (F47.keep K49 (ninS ne_t_o (ninS ne_t_ya nin0)))
        exact OwnW.Go.more (by decide) (by decide) (parta1 l Z a0 hw p0 p1 p2 p3 k e b n c0 c1 c2 c3 c4 c5 c6 c7 o ya ((((P <<< (b &&& 31)) ||| (f18 k c0)) &&& (((1 : Int32) <<< (((hd + b) - (8 : Int32)) &&& 31)) - (1 : Int32)))) (((hd + b) - (8 : Int32))) ((cnt + (1 : Int32))) t cs sv h0 h49 n0 sz51 X50 g_o z_o g_ya z_ya Fc49_0 Fc49_1 Fc49_2 Fc49_3 Fc49_4 Fc49_5 Fc49_6 F52 F53 F54 F55 Fc49_7 S_CS S_SF ne_e_o ne_t_o ne_ya_o ne_e_ya ne_t_ya hcs hsv hk hb (own_Il0 hk hI hv hlt hc209) (own_Yl (i := 0) hk hI hY hlt))
  ·
    refine OwnW.ifcY (pc' := 222) at_209 ((if0 _ _).trans (flt hc209).2.2.2) (by decide) (by decide) ?_
    refine OwnW.iload (pc' := 224) at_222 rfl rfl ?_
    refine OwnW.iconst (pc' := 225) (v := (1 : Int32)) at_224 rfl rfl ?_
    refine OwnW.icmpY (pc' := 238) at_225 (flt (own_nlt hc209 (by decide))).2.2.2 (by decide) (by decide) ?_
    refine OwnW.iload (pc' := 240) at_238 rfl rfl ?_
    refine OwnW.iconst (pc' := 241) (v := (2 : Int32)) at_240 rfl rfl ?_
    refine OwnW.icmpY (pc' := 254) at_241 (flt (own_nlt hc209 (by decide))).2.2.2 (by decide) (by decide) ?_
    refine OwnW.iload (pc' := 256) at_254 rfl rfl ?_
    refine OwnW.iconst (pc' := 257) (v := (3 : Int32)) at_256 rfl rfl ?_
    refine OwnW.icmpY (pc' := 270) at_257 (flt (own_nlt hc209 (by decide))).2.2.2 (by decide) (by decide) ?_
    refine OwnW.iload (pc' := 272) at_270 rfl rfl ?_
    refine OwnW.iconst (pc' := 273) (v := (4 : Int32)) at_272 rfl rfl ?_
    refine OwnW.icmpY (pc' := 286) at_273 (flt (own_nlt hc209 (by decide))).2.2.2 (by decide) (by decide) ?_
    refine OwnW.iload (pc' := 288) at_286 rfl rfl ?_
    refine OwnW.iconst (pc' := 289) (v := (5 : Int32)) at_288 rfl rfl ?_
    refine OwnW.icmpY (pc' := 302) at_289 (flt (own_nlt hc209 (by decide))).2.2.2 (by decide) (by decide) ?_
    refine OwnW.iload (pc' := 304) at_302 rfl rfl ?_
    refine OwnW.bipush (pc' := 306) (v := (6 : Int32)) at_304 rfl rfl ?_
    refine OwnW.icmpY (pc' := 319) at_306 (flt (own_nlt hc209 (by decide))).2.2.2 (by decide) (by decide) ?_
    refine OwnW.iload (pc' := 321) at_319 rfl rfl ?_
    refine OwnW.bipush (pc' := 323) (v := (7 : Int32)) at_321 rfl rfl ?_
    refine OwnW.icmpY (pc' := 336) at_323 (flt (own_nlt hc209 (by decide))).2.2.2 (by decide) (by decide) ?_
    exact OwnW.Go.more (by decide) (by decide) (tailG l Z a0 hw p0 p1 p2 p3 k e b n c0 c1 c2 c3 c4 c5 c6 c7 o ((Value.ref ya)) P hd cs sv h0 hc n0 Z0 XB E_o F_al F_enc F_P F_hd F_b S_CS S_SF hk (own_Iend hI hc209))
set_option maxRecDepth 65536 in
set_option maxHeartbeats 400000000 in
theorem part59 (l : Launch) (Z : State) (a0 : Array Value) (hw : ∀ d ∈ tables_1, d.before a0 Z = true) (p0 : Int32) (p1 : Int32) (p2 : Int64) (p3 : Int32) (k : Int32) (e : Addr) (b : Int32) (t : Addr) (cs : Int32) (sv : Value) (h0 hc : Heap) (n0 : Nat) (Z0 : n0 ≤ hc.size) (XB : Ext h0 hc) (F_b : Fld Z hc e "com/example/plumbline/plumbline/BaseEncoding" "bits" "I" (.int b)) (E_e : Exa Z hc e "com/example/plumbline/plumbline/BaseEncoding") (F_t : Fld Z hc e "com/example/plumbline/plumbline/BaseEncoding" "values" "[I" (.ref t)) (T_t : Tab Z hc t k) (S_CS : Sta Z h0 "java/lang/String" "COMPACT_STRINGS" "Z" (.int cs)) (S_SF : Sta Z h0 "jdk/internal/util/Preconditions" "SIOOBE_FORMATTER" "Ljava/util/function/BiFunction;" sv) (hcs : ¬ cs = (0 : Int32)) (hsv : sv.isRef = true) (hk : own_K k b) :
    GoB0 l Z n0 OwnW.One1 hc 0 0 59 #[.val (.int p0), .val (.int p1), .val (.long p2), .second, .val (.int p3), .val (.int k), .val (.ref e), .val (.int b), .unset, .unset, .unset, .unset, .unset, .unset, .unset, .unset, .unset, .unset, .unset, .unset, .unset, .unset, .unset, .unset] [] := by
  refine OwnW.iloadN (pc' := 60) at_59 rfl rfl ?_
  refine OwnW.ldcI (a0 := a0) (pc' := 62) (v := (2147483647 : Int32)) at_60 (hw _ (List.mem_of_getElem? (i := 0) rfl)) rfl ?_
  refine OwnW.iand (pc' := 63) at_62 rfl ?_
  refine OwnW.bipush (pc' := 65) (v := (9 : Int32)) at_63 rfl rfl ?_
  refine OwnW.irem (pc' := 66) at_65 (by decide) rfl ?_
  obtain ⟨n, hn⟩ : ∃ z, z = ((p1 &&& (2147483647 : Int32)) % (9 : Int32)) := ⟨_, rfl⟩
  rw [← hn]
  show GoB0 l Z n0 OwnW.One1 hc 0 0 66 #[.val (.int p0), .val (.int p1), .val (.long p2), .second, .val (.int p3), .val (.int k), .val (.ref e), .val (.int b), .unset, .unset, .unset, .unset, .unset, .unset, .unset, .unset, .unset, .unset, .unset, .unset, .unset, .unset, .unset, .unset] [(.int n)]
  refine OwnW.istore (pc' := 68) (L' := #[.val (.int p0), .val (.int p1), .val (.long p2), .second, .val (.int p3), .val (.int k), .val (.ref e), .val (.int b), .val (.int n), .unset, .unset, .unset, .unset, .unset, .unset, .unset, .unset, .unset, .unset, .unset, .unset, .unset, .unset, .unset]) at_66 rfl rfl ?_
  refine OwnW.iload (pc' := 70) at_68 rfl rfl ?_
  refine OwnW.iload (pc' := 72) at_70 rfl rfl ?_
  refine OwnW.lloadN (pc' := 73) at_72 rfl rfl ?_
  refine OwnW.iload (pc' := 75) at_73 rfl rfl ?_
  refine OwnW.iconst (pc' := 76) (v := (0 : Int32)) at_75 rfl rfl ?_
  refine OwnW.callS0 (a0 := a0) (pc' := 79) (W := 0) (k' := 0) (n' := 0) (argsL := [(.int k), (.int b), (.long p2), (.int p3), (.int (0 : Int32))]) (rest := []) (St' := [(.int (f1 k b p2 p3 (0 : Int32)))]) at_76 (hw _ (List.mem_of_getElem? (i := 4) rfl)) (hw _ (List.mem_of_getElem? (i := 5) rfl)) (hw _ (List.mem_of_getElem? (i := 6) rfl)) (hw _ (List.mem_of_getElem? (i := 7) rfl)) (by decide) (rm1 l Z a0 hw k b p2 p3 (0 : Int32) hc n0) (by decide) (by decide) rfl rfl (by decide) (by decide) rfl pd_28IIJII29C rfl rfl rfl (Nat.le_of_ble_eq_true rfl) rfl rfl ?_
  obtain ⟨c0, hc0⟩ : ∃ z, z = (f1 k b p2 p3 (0 : Int32)) := ⟨_, rfl⟩
  rw [← hc0]
  show GoB0 l Z n0 OwnW.One1 hc 0 0 79 #[.val (.int p0), .val (.int p1), .val (.long p2), .second, .val (.int p3), .val (.int k), .val (.ref e), .val (.int b), .val (.int n), .unset, .unset, .unset, .unset, .unset, .unset, .unset, .unset, .unset, .unset, .unset, .unset, .unset, .unset, .unset] [(.int c0)]
  refine OwnW.istore (pc' := 81) (L' := #[.val (.int p0), .val (.int p1), .val (.long p2), .second, .val (.int p3), .val (.int k), .val (.ref e), .val (.int b), .val (.int n), .val (.int c0), .unset, .unset, .unset, .unset, .unset, .unset, .unset, .unset, .unset, .unset, .unset, .unset, .unset, .unset]) at_79 rfl rfl ?_
  refine OwnW.iload (pc' := 83) at_81 rfl rfl ?_
  refine OwnW.iload (pc' := 85) at_83 rfl rfl ?_
  refine OwnW.lloadN (pc' := 86) at_85 rfl rfl ?_
  refine OwnW.iload (pc' := 88) at_86 rfl rfl ?_
  refine OwnW.iconst (pc' := 89) (v := (1 : Int32)) at_88 rfl rfl ?_
  refine OwnW.callS0 (a0 := a0) (pc' := 92) (W := 0) (k' := 0) (n' := 0) (argsL := [(.int k), (.int b), (.long p2), (.int p3), (.int (1 : Int32))]) (rest := []) (St' := [(.int (f1 k b p2 p3 (1 : Int32)))]) at_89 (hw _ (List.mem_of_getElem? (i := 4) rfl)) (hw _ (List.mem_of_getElem? (i := 5) rfl)) (hw _ (List.mem_of_getElem? (i := 6) rfl)) (hw _ (List.mem_of_getElem? (i := 7) rfl)) (by decide) (rm1 l Z a0 hw k b p2 p3 (1 : Int32) hc n0) (by decide) (by decide) rfl rfl (by decide) (by decide) rfl pd_28IIJII29C rfl rfl rfl (Nat.le_of_ble_eq_true rfl) rfl rfl ?_
  obtain ⟨c1, hc1⟩ : ∃ z, z = (f1 k b p2 p3 (1 : Int32)) := ⟨_, rfl⟩
  rw [← hc1]
  show GoB0 l Z n0 OwnW.One1 hc 0 0 92 #[.val (.int p0), .val (.int p1), .val (.long p2), .second, .val (.int p3), .val (.int k), .val (.ref e), .val (.int b), .val (.int n), .val (.int c0), .unset, .unset, .unset, .unset, .unset, .unset, .unset, .unset, .unset, .unset, .unset, .unset, .unset, .unset] [(.int c1)]
  refine OwnW.istore (pc' := 94) (L' := #[.val (.int p0), .val (.int p1), .val (.long p2), .second, .val (.int p3), .val (.int k), .val (.ref e), .val (.int b), .val (.int n), .val (.int c0), .val (.int c1), .unset, .unset, .unset, .unset, .unset, .unset, .unset, .unset, .unset, .unset, .unset, .unset, .unset]) at_92 rfl rfl ?_
  refine OwnW.iload (pc' := 96) at_94 rfl rfl ?_
  refine OwnW.iload (pc' := 98) at_96 rfl rfl ?_
  refine OwnW.lloadN (pc' := 99) at_98 rfl rfl ?_
  refine OwnW.iload (pc' := 101) at_99 rfl rfl ?_
  refine OwnW.iconst (pc' := 102) (v := (2 : Int32)) at_101 rfl rfl ?_
  refine OwnW.callS0 (a0 := a0) (pc' := 105) (W := 0) (k' := 0) (n' := 0) (argsL := [(.int k), (.int b), (.long p2), (.int p3), (.int (2 : Int32))]) (rest := []) (St' := [(.int (f1 k b p2 p3 (2 : Int32)))]) at_102 (hw _ (List.mem_of_getElem? (i := 4) rfl)) (hw _ (List.mem_of_getElem? (i := 5) rfl)) (hw _ (List.mem_of_getElem? (i := 6) rfl)) (hw _ (List.mem_of_getElem? (i := 7) rfl)) (by decide) (rm1 l Z a0 hw k b p2 p3 (2 : Int32) hc n0) (by decide) (by decide) rfl rfl (by decide) (by decide) rfl pd_28IIJII29C rfl rfl rfl (Nat.le_of_ble_eq_true rfl) rfl rfl ?_
  obtain ⟨c2, hc2⟩ : ∃ z, z = (f1 k b p2 p3 (2 : Int32)) := ⟨_, rfl⟩
  rw [← hc2]
  show GoB0 l Z n0 OwnW.One1 hc 0 0 105 #[.val (.int p0), .val (.int p1), .val (.long p2), .second, .val (.int p3), .val (.int k), .val (.ref e), .val (.int b), .val (.int n), .val (.int c0), .val (.int c1), .unset, .unset, .unset, .unset, .unset, .unset, .unset, .unset, .unset, .unset, .unset, .unset, .unset] [(.int c2)]
  refine OwnW.istore (pc' := 107) (L' := #[.val (.int p0), .val (.int p1), .val (.long p2), .second, .val (.int p3), .val (.int k), .val (.ref e), .val (.int b), .val (.int n), .val (.int c0), .val (.int c1), .val (.int c2), .unset, .unset, .unset, .unset, .unset, .unset, .unset, .unset, .unset, .unset, .unset, .unset]) at_105 rfl rfl ?_
  refine OwnW.iload (pc' := 109) at_107 rfl rfl ?_
  refine OwnW.iload (pc' := 111) at_109 rfl rfl ?_
  refine OwnW.lloadN (pc' := 112) at_111 rfl rfl ?_
  refine OwnW.iload (pc' := 114) at_112 rfl rfl ?_
  refine OwnW.iconst (pc' := 115) (v := (3 : Int32)) at_114 rfl rfl ?_
  refine OwnW.callS0 (a0 := a0) (pc' := 118) (W := 0) (k' := 0) (n' := 0) (argsL := [(.int k), (.int b), (.long p2), (.int p3), (.int (3 : Int32))]) (rest := []) (St' := [(.int (f1 k b p2 p3 (3 : Int32)))]) at_115 (hw _ (List.mem_of_getElem? (i := 4) rfl)) (hw _ (List.mem_of_getElem? (i := 5) rfl)) (hw _ (List.mem_of_getElem? (i := 6) rfl)) (hw _ (List.mem_of_getElem? (i := 7) rfl)) (by decide) (rm1 l Z a0 hw k b p2 p3 (3 : Int32) hc n0) (by decide) (by decide) rfl rfl (by decide) (by decide) rfl pd_28IIJII29C rfl rfl rfl (Nat.le_of_ble_eq_true rfl) rfl rfl ?_
  obtain ⟨c3, hc3⟩ : ∃ z, z = (f1 k b p2 p3 (3 : Int32)) := ⟨_, rfl⟩
  rw [← hc3]
  show GoB0 l Z n0 OwnW.One1 hc 0 0 118 #[.val (.int p0), .val (.int p1), .val (.long p2), .second, .val (.int p3), .val (.int k), .val (.ref e), .val (.int b), .val (.int n), .val (.int c0), .val (.int c1), .val (.int c2), .unset, .unset, .unset, .unset, .unset, .unset, .unset, .unset, .unset, .unset, .unset, .unset] [(.int c3)]
  refine OwnW.istore (pc' := 120) (L' := #[.val (.int p0), .val (.int p1), .val (.long p2), .second, .val (.int p3), .val (.int k), .val (.ref e), .val (.int b), .val (.int n), .val (.int c0), .val (.int c1), .val (.int c2), .val (.int c3), .unset, .unset, .unset, .unset, .unset, .unset, .unset, .unset, .unset, .unset, .unset]) at_118 rfl rfl ?_
  refine OwnW.iload (pc' := 122) at_120 rfl rfl ?_
  refine OwnW.iload (pc' := 124) at_122 rfl rfl ?_
  refine OwnW.lloadN (pc' := 125) at_124 rfl rfl ?_
  refine OwnW.iload (pc' := 127) at_125 rfl rfl ?_
  refine OwnW.iconst (pc' := 128) (v := (4 : Int32)) at_127 rfl rfl ?_
  refine OwnW.callS0 (a0 := a0) (pc' := 131) (W := 0) (k' := 0) (n' := 0) (argsL := [(.int k), (.int b), (.long p2), (.int p3), (.int (4 : Int32))]) (rest := []) (St' := [(.int (f1 k b p2 p3 (4 : Int32)))]) at_128 (hw _ (List.mem_of_getElem? (i := 4) rfl)) (hw _ (List.mem_of_getElem? (i := 5) rfl)) (hw _ (List.mem_of_getElem? (i := 6) rfl)) (hw _ (List.mem_of_getElem? (i := 7) rfl)) (by decide) (rm1 l Z a0 hw k b p2 p3 (4 : Int32) hc n0) (by decide) (by decide) rfl rfl (by decide) (by decide) rfl pd_28IIJII29C rfl rfl rfl (Nat.le_of_ble_eq_true rfl) rfl rfl ?_
  obtain ⟨c4, hc4⟩ : ∃ z, z = (f1 k b p2 p3 (4 : Int32)) := ⟨_, rfl⟩
  rw [← hc4]
  show GoB0 l Z n0 OwnW.One1 hc 0 0 131 #[.val (.int p0), .val (.int p1), .val (.long p2), .second, .val (.int p3), .val (.int k), .val (.ref e), .val (.int b), .val (.int n), .val (.int c0), .val (.int c1), .val (.int c2), .val (.int c3), .unset, .unset, .unset, .unset, .unset, .unset, .unset, .unset, .unset, .unset, .unset] [(.int c4)]
  refine OwnW.istore (pc' := 133) (L' := #[.val (.int p0), .val (.int p1), .val (.long p2), .second, .val (.int p3), .val (.int k), .val (.ref e), .val (.int b), .val (.int n), .val (.int c0), .val (.int c1), .val (.int c2), .val (.int c3), .val (.int c4), .unset, .unset, .unset, .unset, .unset, .unset, .unset, .unset, .unset, .unset]) at_131 rfl rfl ?_
  refine OwnW.iload (pc' := 135) at_133 rfl rfl ?_
  refine OwnW.iload (pc' := 137) at_135 rfl rfl ?_
  refine OwnW.lloadN (pc' := 138) at_137 rfl rfl ?_
  refine OwnW.iload (pc' := 140) at_138 rfl rfl ?_
  refine OwnW.iconst (pc' := 141) (v := (5 : Int32)) at_140 rfl rfl ?_
  refine OwnW.callS0 (a0 := a0) (pc' := 144) (W := 0) (k' := 0) (n' := 0) (argsL := [(.int k), (.int b), (.long p2), (.int p3), (.int (5 : Int32))]) (rest := []) (St' := [(.int (f1 k b p2 p3 (5 : Int32)))]) at_141 (hw _ (List.mem_of_getElem? (i := 4) rfl)) (hw _ (List.mem_of_getElem? (i := 5) rfl)) (hw _ (List.mem_of_getElem? (i := 6) rfl)) (hw _ (List.mem_of_getElem? (i := 7) rfl)) (by decide) (rm1 l Z a0 hw k b p2 p3 (5 : Int32) hc n0) (by decide) (by decide) rfl rfl (by decide) (by decide) rfl pd_28IIJII29C rfl rfl rfl (Nat.le_of_ble_eq_true rfl) rfl rfl ?_
  obtain ⟨c5, hc5⟩ : ∃ z, z = (f1 k b p2 p3 (5 : Int32)) := ⟨_, rfl⟩
  rw [← hc5]
  show GoB0 l Z n0 OwnW.One1 hc 0 0 144 #[.val (.int p0), .val (.int p1), .val (.long p2), .second, .val (.int p3), .val (.int k), .val (.ref e), .val (.int b), .val (.int n), .val (.int c0), .val (.int c1), .val (.int c2), .val (.int c3), .val (.int c4), .unset, .unset, .unset, .unset, .unset, .unset, .unset, .unset, .unset, .unset] [(.int c5)]
  refine OwnW.istore (pc' := 146) (L' := #[.val (.int p0), .val (.int p1), .val (.long p2), .second, .val (.int p3), .val (.int k), .val (.ref e), .val (.int b), .val (.int n), .val (.int c0), .val (.int c1), .val (.int c2), .val (.int c3), .val (.int c4), .val (.int c5), .unset, .unset, .unset, .unset, .unset, .unset, .unset, .unset, .unset]) at_144 rfl rfl ?_
  refine OwnW.iload (pc' := 148) at_146 rfl rfl ?_
  refine OwnW.iload (pc' := 150) at_148 rfl rfl ?_
  refine OwnW.lloadN (pc' := 151) at_150 rfl rfl ?_
  refine OwnW.iload (pc' := 153) at_151 rfl rfl ?_
  refine OwnW.bipush (pc' := 155) (v := (6 : Int32)) at_153 rfl rfl ?_
  refine OwnW.callS0 (a0 := a0) (pc' := 158) (W := 0) (k' := 0) (n' := 0) (argsL := [(.int k), (.int b), (.long p2), (.int p3), (.int (6 : Int32))]) (rest := []) (St' := [(.int (f1 k b p2 p3 (6 : Int32)))]) at_155 (hw _ (List.mem_of_getElem? (i := 4) rfl)) (hw _ (List.mem_of_getElem? (i := 5) rfl)) (hw _ (List.mem_of_getElem? (i := 6) rfl)) (hw _ (List.mem_of_getElem? (i := 7) rfl)) (by decide) (rm1 l Z a0 hw k b p2 p3 (6 : Int32) hc n0) (by decide) (by decide) rfl rfl (by decide) (by decide) rfl pd_28IIJII29C rfl rfl rfl (Nat.le_of_ble_eq_true rfl) rfl rfl ?_
  obtain ⟨c6, hc6⟩ : ∃ z, z = (f1 k b p2 p3 (6 : Int32)) := ⟨_, rfl⟩
  rw [← hc6]
  show GoB0 l Z n0 OwnW.One1 hc 0 0 158 #[.val (.int p0), .val (.int p1), .val (.long p2), .second, .val (.int p3), .val (.int k), .val (.ref e), .val (.int b), .val (.int n), .val (.int c0), .val (.int c1), .val (.int c2), .val (.int c3), .val (.int c4), .val (.int c5), .unset, .unset, .unset, .unset, .unset, .unset, .unset, .unset, .unset] [(.int c6)]
  refine OwnW.istore (pc' := 160) (L' := #[.val (.int p0), .val (.int p1), .val (.long p2), .second, .val (.int p3), .val (.int k), .val (.ref e), .val (.int b), .val (.int n), .val (.int c0), .val (.int c1), .val (.int c2), .val (.int c3), .val (.int c4), .val (.int c5), .val (.int c6), .unset, .unset, .unset, .unset, .unset, .unset, .unset, .unset]) at_158 rfl rfl ?_
  refine OwnW.iload (pc' := 162) at_160 rfl rfl ?_
  refine OwnW.iload (pc' := 164) at_162 rfl rfl ?_
  refine OwnW.lloadN (pc' := 165) at_164 rfl rfl ?_
  refine OwnW.iload (pc' := 167) at_165 rfl rfl ?_
  refine OwnW.bipush (pc' := 169) (v := (7 : Int32)) at_167 rfl rfl ?_
  refine OwnW.callS0 (a0 := a0) (pc' := 172) (W := 0) (k' := 0) (n' := 0) (argsL := [(.int k), (.int b), (.long p2), (.int p3), (.int (7 : Int32))]) (rest := []) (St' := [(.int (f1 k b p2 p3 (7 : Int32)))]) at_169 (hw _ (List.mem_of_getElem? (i := 4) rfl)) (hw _ (List.mem_of_getElem? (i := 5) rfl)) (hw _ (List.mem_of_getElem? (i := 6) rfl)) (hw _ (List.mem_of_getElem? (i := 7) rfl)) (by decide) (rm1 l Z a0 hw k b p2 p3 (7 : Int32) hc n0) (by decide) (by decide) rfl rfl (by decide) (by decide) rfl pd_28IIJII29C rfl rfl rfl (Nat.le_of_ble_eq_true rfl) rfl rfl ?_
  obtain ⟨c7, hc7⟩ : ∃ z, z = (f1 k b p2 p3 (7 : Int32)) := ⟨_, rfl⟩
  rw [← hc7]
  show GoB0 l Z n0 OwnW.One1 hc 0 0 172 #[.val (.int p0), .val (.int p1), .val (.long p2), .second, .val (.int p3), .val (.int k), .val (.ref e), .val (.int b), .val (.int n), .val (.int c0), .val (.int c1), .val (.int c2), .val (.int c3), .val (.int c4), .val (.int c5), .val (.int c6), .unset, .unset, .unset, .unset, .unset, .unset, .unset, .unset] [(.int c7)]
  refine OwnW.istore (pc' := 174) (L' := #[.val (.int p0), .val (.int p1), .val (.long p2), .second, .val (.int p3), .val (.int k), .val (.ref e), .val (.int b), .val (.int n), .val (.int c0), .val (.int c1), .val (.int c2), .val (.int c3), .val (.int c4), .val (.int c5), .val (.int c6), .val (.int c7), .unset, .unset, .unset, .unset, .unset, .unset, .unset]) at_172 rfl rfl ?_
  refine OwnW.iload (pc' := 176) at_174 rfl rfl ?_
  refine OwnW.bipush (pc' := 178) (v := (8 : Int32)) at_176 rfl rfl ?_
  refine OwnW.iushr (pc' := 179) at_178 rfl ?_
  refine OwnW.iconst (pc' := 180) (v := (1 : Int32)) at_179 rfl rfl ?_
  refine OwnW.iand (pc' := 181) at_180 rfl ?_
  by_cases hc181 : (((p3.toUInt32 >>> ((8 : Int32) &&& 31).toUInt32).toInt32) &&& (1 : Int32)) = (0 : Int32)
  ·
    refine OwnW.ifcY (pc' := 191) at_181 ((if0 _ _).trans (teq hc181).1) (by decide) (by decide) ?_
    refine OwnW.aconstNull (pc' := 192) at_191 rfl ?_
    refine OwnW.astore (pc' := 194) (L' := #[.val (.int p0), .val (.int p1), .val (.long p2), .second, .val (.int p3), .val (.int k), .val (.ref e), .val (.int b), .val (.int n), .val (.int c0), .val (.int c1), .val (.int c2), .val (.int c3), .val (.int c4), .val (.int c5), .val (.int c6), .val (.int c7), .val .null, .unset, .unset, .unset, .unset, .unset, .unset]) at_192 (rfl) rfl rfl ?_
    refine OwnW.newO (a0 := a0) (pc' := 197) (k' := 1) (n' := 6) at_194 (hw _ (List.mem_of_getElem? (i := 9) rfl)) (hw _ (List.mem_of_getElem? (i := 10) rfl)) (hw _ (List.mem_of_getElem? (i := 11) rfl)) rfl rfl (by decide) (by decide) rfl ?_
    intro h1 ad1 g1 E1 A1 D1
    have lt_e_ad1 : @LT.lt Nat _ e ad1 := Nat.lt_of_lt_of_le (E_e).lt (Nat.le_of_eq g1.symm)
    have lt_t_ad1 : @LT.lt Nat _ t ad1 := Nat.lt_of_lt_of_le (T_t).lt (Nat.le_of_eq g1.symm)
    have ge_ad1 : n0 ≤ ad1 := Nat.le_trans Z0 (Nat.le_of_eq g1.symm)
    have X2 : Ext h0 h1 := OwnW.ext_trans XB E1
    have sz_ad1 : n0 ≤ h1.size := Nat.le_trans Z0 E1.1
    have F1_inAlphabet : Fld Z h1 ad1 "com/example/plumbline/plumbline/BaseEncoding$Reading" "inAlphabet" "Z" (.int (0 : Int32)) := D1 (Or.inl (hw _ (List.mem_of_getElem? (i := 19) rfl))) (ty := .boolean) (by decide)
    have F1_encoding : Fld Z h1 ad1 "com/example/plumbline/plumbline/BaseEncoding$Reading" "encoding" "Lcom/example/plumbline/plumbline/BaseEncoding;" .null := D1 (Or.inr (hw _ (List.mem_of_getElem? (i := 21) rfl))) (ty := (.object "com/example/plumbline/plumbline/BaseEncoding")) (by decide)
    have F1_bytes : Fld Z h1 ad1 "com/example/plumbline/plumbline/BaseEncoding$Reading" "bytes" "[B" .null := D1 (Or.inr (hw _ (List.mem_of_getElem? (i := 23) rfl))) (ty := (.array .byte)) (by decide)
    have F1_pending : Fld Z h1 ad1 "com/example/plumbline/plumbline/BaseEncoding$Reading" "pending" "I" (.int (0 : Int32)) := D1 (Or.inl (hw _ (List.mem_of_getElem? (i := 112) rfl))) (ty := .int) (by decide)
    have F1_held : Fld Z h1 ad1 "com/example/plumbline/plumbline/BaseEncoding$Reading" "held" "I" (.int (0 : Int32)) := D1 (Or.inl (hw _ (List.mem_of_getElem? (i := 116) rfl))) (ty := .int) (by decide)
    have F1_count : Fld Z h1 ad1 "com/example/plumbline/plumbline/BaseEncoding$Reading" "count" "I" (.int (0 : Int32)) := D1 (Or.inl (hw _ (List.mem_of_getElem? (i := 122) rfl))) (ty := .int) (by decide)
    refine OwnW.dup (pc' := 198) at_197 rfl rfl ?_
    refine OwnW.aload (pc' := 200) at_198 rfl (rfl) rfl ?_
    refine OwnW.aload (pc' := 202) at_200 rfl (rfl) rfl ?_
    refine OwnW.callI (a0 := a0) (pc' := 205) (W := 1) (k' := 1) (n' := 6) (argsL := [(.ref e), .null]) (rest := [(.ref ad1)]) at_202 rfl (hw _ (List.mem_of_getElem? (i := 12) rfl)) (hw _ (List.mem_of_getElem? (i := 13) rfl)) (hw _ (List.mem_of_getElem? (i := 11) rfl)) (hw _ (List.mem_of_getElem? (i := 14) rfl)) (by decide) (rm2n l Z a0 hw ad1 e h1 n0 sz_ad1 ge_ad1 A1 F1_inAlphabet F1_encoding F1_bytes F1_pending F1_held F1_count) (by decide) (by decide) rfl rfl (by decide) (by decide) rfl pd_28Lcom2fexample2fplumbline2fplumbline2fBaseEncoding3b5bB29V rfl rfl rfl (Nat.le_of_ble_eq_true rfl) rfl ?_
    rintro h3 v3 ⟨rfl, K3, Fc3_0, Fc3_1, Fc3_2, Fc3_3, Fc3_4, Fc3_5, Fc3_6⟩
    have X4 : Ext h0 h3 := OwnW.ext_keep X2 K3 (allS (Nat.le_trans XB.1 (Nat.le_of_eq g1.symm)) all0)
    have sz5 : n0 ≤ h3.size := Nat.le_trans sz_ad1 K3.1
    show GoB0 l Z n0 OwnW.One1 h3 1 6 205 #[.val (.int p0), .val (.int p1), .val (.long p2), .second, .val (.int p3), .val (.int k), .val (.ref e), .val (.int b), .val (.int n), .val (.int c0), .val (.int c1), .val (.int c2), .val (.int c3), .val (.int c4), .val (.int c5), .val (.int c6), .val (.int c7), .val .null, .unset, .unset, .unset, .unset, .unset, .unset] [(.ref ad1)]
    refine OwnW.astore (pc' := 207) (L' := #[.val (.int p0), .val (.int p1), .val (.long p2), .second, .val (.int p3), .val (.int k), .val (.ref e), .val (.int b), .val (.int n), .val (.int c0), .val (.int c1), .val (.int c2), .val (.int c3), .val (.int c4), .val (.int c5), .val (.int c6), .val (.int c7), .val .null, .val (.ref ad1), .unset, .unset, .unset, .unset, .unset]) at_205 (rfl) rfl rfl ?_
    have F6 := ((F_b.ext E1).keep K3 (ninS (Nat.ne_of_lt lt_e_ad1) nin0))
    have F7 := ((E_e.ext E1).keep K3)
    have F8 := ((F_t.ext E1).keep K3 (ninS (Nat.ne_of_lt lt_e_ad1) nin0))
    have F9 := ((T_t.ext E1).keep K3 (ninS (Nat.ne_of_lt lt_t_ad1) nin0))
    exact OwnW.Go.more (by decide) (by decide) (partn0 l Z a0 hw p0 p1 p2 p3 k e b n c0 c1 c2 c3 c4 c5 c6 c7 ad1 ((0 : Int32)) ((0 : Int32)) ((0 : Int32)) t cs sv h0 h3 n0 sz5 X4 ge_ad1 (Nat.le_trans XB.1 (Nat.le_of_eq g1.symm)) Fc3_0 Fc3_1 Fc3_2 Fc3_3 Fc3_4 Fc3_5 Fc3_6 F6 F7 F8 F9 S_CS S_SF (Nat.ne_of_lt lt_e_ad1) (Nat.ne_of_lt lt_t_ad1) hcs hsv hk ⟨own_drc hk hc0, own_drc hk hc1, own_drc hk hc2, own_drc hk hc3, own_drc hk hc4, own_drc hk hc5, own_drc hk hc6, own_drc hk hc7⟩ (own_I0 hn))
  ·
    refine OwnW.ifcN (pc' := 184) at_181 ((if0 _ _).trans (feq hc181).1) rfl ?_
    refine OwnW.bipush (pc' := 186) (v := (6 : Int32)) at_184 rfl rfl ?_
    refine OwnW.newP (a0 := a0) (pc' := 188) (cap := 6) (k' := 1) (n' := 6) at_186 (hw _ (List.mem_of_getElem? (i := 38) rfl)) (by decide) (by decide) (by decide) rfl rfl (by decide) (by decide) rfl ?_
    intro h10 kc10 ad10 g10 E10 A10
    have lt_e_ad10 : @LT.lt Nat _ e ad10 := Nat.lt_of_lt_of_le (E_e).lt (Nat.le_of_eq g10.symm)
    have lt_t_ad10 : @LT.lt Nat _ t ad10 := Nat.lt_of_lt_of_le (T_t).lt (Nat.le_of_eq g10.symm)
    have ge_ad10 : n0 ≤ ad10 := Nat.le_trans Z0 (Nat.le_of_eq g10.symm)
    have X11 : Ext h0 h10 := OwnW.ext_trans XB E10
    have sz_ad10 : n0 ≤ h10.size := Nat.le_trans Z0 E10.1
    have V10 : Arv Z h10 ad10 kc10 .byte (6 : Int32) [(.int (0 : Int32)), (.int (0 : Int32)), (.int (0 : Int32)), (.int (0 : Int32)), (.int (0 : Int32)), (.int (0 : Int32))] (.int (0 : Int32)) := (Arv.new A10 (by decide)).pad (pad_rep [] _ 6)
    refine OwnW.goto (pc' := 192) at_188 (by decide) (by decide) ?_
    have Y_a : Byt Z h10 ad10 := by obtain ⟨cl, Ar, -, Sz, -⟩ := V10; exact ⟨cl, Ar, Sz.trans (by decide)⟩
    refine OwnW.astore (pc' := 194) (L' := #[.val (.int p0), .val (.int p1), .val (.long p2), .second, .val (.int p3), .val (.int k), .val (.ref e), .val (.int b), .val (.int n), .val (.int c0), .val (.int c1), .val (.int c2), .val (.int c3), .val (.int c4), .val (.int c5), .val (.int c6), .val (.int c7), .val (.ref ad10), .unset, .unset, .unset, .unset, .unset, .unset]) at_192 (rfl) rfl rfl ?_
    refine OwnW.newO (a0 := a0) (pc' := 197) (k' := 2) (n' := 12) at_194 (hw _ (List.mem_of_getElem? (i := 9) rfl)) (hw _ (List.mem_of_getElem? (i := 10) rfl)) (hw _ (List.mem_of_getElem? (i := 11) rfl)) rfl rfl (by decide) (by decide) rfl ?_
    intro h12 ad12 g12 E12 A12 D12
    have lt_e_ad12 : @LT.lt Nat _ e ad12 := Nat.lt_of_lt_of_le ((E_e.ext E10)).lt (Nat.le_of_eq g12.symm)
    have lt_t_ad12 : @LT.lt Nat _ t ad12 := Nat.lt_of_lt_of_le ((T_t.ext E10)).lt (Nat.le_of_eq g12.symm)
    have lt_ad10_ad12 : @LT.lt Nat _ ad10 ad12 := Nat.lt_of_lt_of_le (V10).lt (Nat.le_of_eq g12.symm)
    have ge_ad12 : n0 ≤ ad12 := Nat.le_trans sz_ad10 (Nat.le_of_eq g12.symm)
    have X13 : Ext h0 h12 := OwnW.ext_trans X11 E12
    have sz_ad12 : n0 ≤ h12.size := Nat.le_trans sz_ad10 E12.1
    have F12_inAlphabet : Fld Z h12 ad12 "com/example/plumbline/plumbline/BaseEncoding$Reading" "inAlphabet" "Z" (.int (0 : Int32)) := D12 (Or.inl (hw _ (List.mem_of_getElem? (i := 19) rfl))) (ty := .boolean) (by decide)
    have F12_encoding : Fld Z h12 ad12 "com/example/plumbline/plumbline/BaseEncoding$Reading" "encoding" "Lcom/example/plumbline/plumbline/BaseEncoding;" .null := D12 (Or.inr (hw _ (List.mem_of_getElem? (i := 21) rfl))) (ty := (.object "com/example/plumbline/plumbline/BaseEncoding")) (by decide)
    have F12_bytes : Fld Z h12 ad12 "com/example/plumbline/plumbline/BaseEncoding$Reading" "bytes" "[B" .null := D12 (Or.inr (hw _ (List.mem_of_getElem? (i := 23) rfl))) (ty := (.array .byte)) (by decide)
    have F12_pending : Fld Z h12 ad12 "com/example/plumbline/plumbline/BaseEncoding$Reading" "pending" "I" (.int (0 : Int32)) := D12 (Or.inl (hw _ (List.mem_of_getElem? (i := 112) rfl))) (ty := .int) (by decide)
    have F12_held : Fld Z h12 ad12 "com/example/plumbline/plumbline/BaseEncoding$Reading" "held" "I" (.int (0 : Int32)) := D12 (Or.inl (hw _ (List.mem_of_getElem? (i := 116) rfl))) (ty := .int) (by decide)
    have F12_count : Fld Z h12 ad12 "com/example/plumbline/plumbline/BaseEncoding$Reading" "count" "I" (.int (0 : Int32)) := D12 (Or.inl (hw _ (List.mem_of_getElem? (i := 122) rfl))) (ty := .int) (by decide)
    refine OwnW.dup (pc' := 198) at_197 rfl rfl ?_
    refine OwnW.aload (pc' := 200) at_198 rfl (rfl) rfl ?_
    refine OwnW.aload (pc' := 202) at_200 rfl (rfl) rfl ?_
    refine OwnW.callI (a0 := a0) (pc' := 205) (W := 1) (k' := 2) (n' := 12) (argsL := [(.ref e), (.ref ad10)]) (rest := [(.ref ad12)]) at_202 rfl (hw _ (List.mem_of_getElem? (i := 12) rfl)) (hw _ (List.mem_of_getElem? (i := 13) rfl)) (hw _ (List.mem_of_getElem? (i := 11) rfl)) (hw _ (List.mem_of_getElem? (i := 14) rfl)) (by decide) (rm2a l Z a0 hw ad12 e ad10 h12 n0 sz_ad12 ge_ad12 A12 F12_inAlphabet F12_encoding F12_bytes F12_pending F12_held F12_count) (by decide) (by decide) rfl rfl (by decide) (by decide) rfl pd_28Lcom2fexample2fplumbline2fplumbline2fBaseEncoding3b5bB29V rfl rfl rfl (Nat.le_of_ble_eq_true rfl) rfl ?_
    rintro h14 v14 ⟨rfl, K14, Fc14_0, Fc14_1, Fc14_2, Fc14_3, Fc14_4, Fc14_5, Fc14_6⟩
    have X15 : Ext h0 h14 := OwnW.ext_keep X13 K14 (allS (Nat.le_trans (Nat.le_trans XB.1 E10.1) (Nat.le_of_eq g12.symm)) all0)
    have sz16 : n0 ≤ h14.size := Nat.le_trans sz_ad12 K14.1
    show GoB0 l Z n0 OwnW.One1 h14 2 12 205 #[.val (.int p0), .val (.int p1), .val (.long p2), .second, .val (.int p3), .val (.int k), .val (.ref e), .val (.int b), .val (.int n), .val (.int c0), .val (.int c1), .val (.int c2), .val (.int c3), .val (.int c4), .val (.int c5), .val (.int c6), .val (.int c7), .val (.ref ad10), .unset, .unset, .unset, .unset, .unset, .unset] [(.ref ad12)]
    refine OwnW.astore (pc' := 207) (L' := #[.val (.int p0), .val (.int p1), .val (.long p2), .second, .val (.int p3), .val (.int k), .val (.ref e), .val (.int b), .val (.int n), .val (.int c0), .val (.int c1), .val (.int c2), .val (.int c3), .val (.int c4), .val (.int c5), .val (.int c6), .val (.int c7), .val (.ref ad10), .val (.ref ad12), .unset, .unset, .unset, .unset, .unset]) at_205 (rfl) rfl rfl ?_
    have F17 := (((F_b.ext E10).ext E12).keep K14 (ninS (Nat.ne_of_lt lt_e_ad12) nin0))
    have F18 := (((E_e.ext E10).ext E12).keep K14)
    have F19 := (((F_t.ext E10).ext E12).keep K14 (ninS (Nat.ne_of_lt lt_e_ad12) nin0))
    have F20 := (((T_t.ext E10).ext E12).keep K14 (ninS (Nat.ne_of_lt lt_t_ad12) nin0))
    have F21 := ((Y_a.ext E12).keep K14 (ninS (Nat.ne_of_lt lt_ad10_ad12) nin0))
    exact OwnW.Go.more (by decide) (by decide) (parta0 l Z a0 hw p0 p1 p2 p3 k e b n c0 c1 c2 c3 c4 c5 c6 c7 ad12 ad10 ((0 : Int32)) ((0 : Int32)) ((0 : Int32)) t cs sv h0 h14 n0 sz16 X15 ge_ad12 (Nat.le_trans (Nat.le_trans XB.1 E10.1) (Nat.le_of_eq g12.symm)) ge_ad10 (Nat.le_trans XB.1 (Nat.le_of_eq g10.symm)) Fc14_0 Fc14_1 Fc14_2 Fc14_3 Fc14_4 Fc14_5 Fc14_6 F17 F18 F19 F20 F21 S_CS S_SF (Nat.ne_of_lt lt_e_ad12) (Nat.ne_of_lt lt_t_ad12) (Nat.ne_of_lt lt_ad10_ad12) (Nat.ne_of_lt lt_e_ad10) (Nat.ne_of_lt lt_t_ad10) hcs hsv hk ⟨own_drc hk hc0, own_drc hk hc1, own_drc hk hc2, own_drc hk hc3, own_drc hk hc4, own_drc hk hc5, own_drc hk hc6, own_drc hk hc7⟩ (own_I0 hn) own_Y0)
theorem ef0 (m : MethodId) (p0 : Int32) (p1 : Int32) (p2 : Int64) (p3 : Int32) : entryFrame m #[(.int p0), (.int p1), (.long p2), (.int p3)] maxLocals = mkF m 0 #[.val (.int p0), .val (.int p1), .val (.long p2), .second, .val (.int p3), .unset, .unset, .unset, .unset, .unset, .unset, .unset, .unset, .unset, .unset, .unset, .unset, .unset, .unset, .unset, .unset, .unset, .unset, .unset] [] := by first | (simp [entryFrame, mkF, argsToLocals, Value.category, maxLocals]; done) | rfl
set_option maxRecDepth 65536 in
set_option maxHeartbeats 400000000 in
theorem rm0 (l : Launch) (Z : State) (a0 : Array Value) (hw : ∀ d ∈ tables_1, d.before a0 Z = true) (p0 : Int32) (p1 : Int32) (p2 : Int64) (p3 : Int32) (e_BASE16 : Addr) (e_BASE64URL : Addr) (e_BASE32 : Addr) (t_BASE16 : Addr) (t_BASE32 : Addr) (t_BASE64URL : Addr) (cs : Int32) (sv : Value) (h0 : Heap) (n0 : Nat) (Z0 : n0 ≤ h0.size) (S_BASE16 : Sta Z h0 "com/example/plumbline/plumbline/BaseEncoding" "BASE16" "Lcom/example/plumbline/plumbline/BaseEncoding;" (.ref e_BASE16)) (E_BASE16 : Exa Z h0 e_BASE16 "com/example/plumbline/plumbline/BaseEncoding") (S_BASE64URL : Sta Z h0 "com/example/plumbline/plumbline/BaseEncoding" "BASE64URL" "Lcom/example/plumbline/plumbline/BaseEncoding;" (.ref e_BASE64URL)) (E_BASE64URL : Exa Z h0 e_BASE64URL "com/example/plumbline/plumbline/BaseEncoding") (S_BASE32 : Sta Z h0 "com/example/plumbline/plumbline/BaseEncoding" "BASE32" "Lcom/example/plumbline/plumbline/BaseEncoding;" (.ref e_BASE32)) (E_BASE32 : Exa Z h0 e_BASE32 "com/example/plumbline/plumbline/BaseEncoding") (O_BASE16_bits : Fld Z h0 e_BASE16 "com/example/plumbline/plumbline/BaseEncoding" "bits" "I" (.int (4 : Int32))) (O_BASE64URL_bits : Fld Z h0 e_BASE64URL "com/example/plumbline/plumbline/BaseEncoding" "bits" "I" (.int (6 : Int32))) (O_BASE32_bits : Fld Z h0 e_BASE32 "com/example/plumbline/plumbline/BaseEncoding" "bits" "I" (.int (5 : Int32))) (Ft_BASE16 : Fld Z h0 e_BASE16 "com/example/plumbline/plumbline/BaseEncoding" "values" "[I" (.ref t_BASE16)) (Tt_BASE16 : Tab Z h0 t_BASE16 (0 : Int32)) (Ft_BASE32 : Fld Z h0 e_BASE32 "com/example/plumbline/plumbline/BaseEncoding" "values" "[I" (.ref t_BASE32)) (Tt_BASE32 : Tab Z h0 t_BASE32 (1 : Int32)) (Ft_BASE64URL : Fld Z h0 e_BASE64URL "com/example/plumbline/plumbline/BaseEncoding" "values" "[I" (.ref t_BASE64URL)) (Tt_BASE64URL : Tab Z h0 t_BASE64URL (2 : Int32)) (S_CS : Sta Z h0 "java/lang/String" "COMPACT_STRINGS" "Z" (.int cs)) (S_SF : Sta Z h0 "jdk/internal/util/Preconditions" "SIOOBE_FORMATTER" "Ljava/util/function/BiFunction;" sv) (hcs : ¬ cs = (0 : Int32)) (hsv : sv.isRef = true) :
    Con l Z room_1 x code maxLocals ret n0 #[(.int p0), (.int p1), (.long p2), (.int p3)] h0 OwnW.One1 := by
  refine OwnW.Con.of (by first | decide +kernel | exact plainFor_of_name (by simp [x, plainName, overriddenIn])) (fun m => ef0 m p0 p1 p2 p3) ?_
  show GoB0 l Z n0 OwnW.One1 h0 0 0 0 #[.val (.int p0), .val (.int p1), .val (.long p2), .second, .val (.int p3), .unset, .unset, .unset, .unset, .unset, .unset, .unset, .unset, .unset, .unset, .unset, .unset, .unset, .unset, .unset, .unset, .unset, .unset, .unset] []
  refine OwnW.iloadN (pc' := 1) at_0 rfl rfl ?_
  refine OwnW.ldcI (a0 := a0) (pc' := 3) (v := (2147483647 : Int32)) at_1 (hw _ (List.mem_of_getElem? (i := 0) rfl)) rfl ?_
  refine OwnW.iand (pc' := 4) at_3 rfl ?_
  refine OwnW.iconst (pc' := 5) (v := (3 : Int32)) at_4 rfl rfl ?_
  refine OwnW.irem (pc' := 6) at_5 (by decide) rfl ?_
  obtain ⟨kk, hkk⟩ : ∃ z, z = ((p0 &&& (2147483647 : Int32)) % (3 : Int32)) := ⟨_, rfl⟩
  rw [← hkk]
  show GoB0 l Z n0 OwnW.One1 h0 0 0 6 #[.val (.int p0), .val (.int p1), .val (.long p2), .second, .val (.int p3), .unset, .unset, .unset, .unset, .unset, .unset, .unset, .unset, .unset, .unset, .unset, .unset, .unset, .unset, .unset, .unset, .unset, .unset, .unset] [(.int kk)]
  refine OwnW.istore (pc' := 8) (L' := #[.val (.int p0), .val (.int p1), .val (.long p2), .second, .val (.int p3), .val (.int kk), .unset, .unset, .unset, .unset, .unset, .unset, .unset, .unset, .unset, .unset, .unset, .unset, .unset, .unset, .unset, .unset, .unset, .unset]) at_6 rfl rfl ?_
  rcases (own_k3 hkk) with rfl | rfl | rfl
  ·
    show GoB0 l Z n0 OwnW.One1 h0 0 0 8 #[.val (.int p0), .val (.int p1), .val (.long p2), .second, .val (.int p3), .val (.int (0 : Int32)), .unset, .unset, .unset, .unset, .unset, .unset, .unset, .unset, .unset, .unset, .unset, .unset, .unset, .unset, .unset, .unset, .unset, .unset] []
    refine OwnW.iload (pc' := 10) at_8 rfl rfl ?_
    refine OwnW.ifcN (pc' := 13) at_10 ((if0 _ _).trans (teq (by decide)).2) rfl ?_
    refine OwnW.getS (a0 := a0) (pc' := 16) at_13 (host := "") (Or.inl (hw _ (List.mem_of_getElem? (i := 1) rfl))) Via.refl (S_BASE16.ext (OwnW.ext_refl h0)) rfl ?_
    refine OwnW.goto (pc' := 34) at_16 (by decide) (by decide) ?_
    refine OwnW.astore (pc' := 36) (L' := #[.val (.int p0), .val (.int p1), .val (.long p2), .second, .val (.int p3), .val (.int (0 : Int32)), .val (.ref e_BASE16), .unset, .unset, .unset, .unset, .unset, .unset, .unset, .unset, .unset, .unset, .unset, .unset, .unset, .unset, .unset, .unset, .unset]) at_34 (rfl) rfl rfl ?_
    refine OwnW.iload (pc' := 38) at_36 rfl rfl ?_
    refine OwnW.ifcN (pc' := 41) at_38 ((if0 _ _).trans (teq (by decide)).2) rfl ?_
    refine OwnW.iconst (pc' := 42) (v := (4 : Int32)) at_41 rfl rfl ?_
    refine OwnW.goto (pc' := 57) at_42 (by decide) (by decide) ?_
    refine OwnW.istore (pc' := 59) (L' := #[.val (.int p0), .val (.int p1), .val (.long p2), .second, .val (.int p3), .val (.int (0 : Int32)), .val (.ref e_BASE16), .val (.int (4 : Int32)), .unset, .unset, .unset, .unset, .unset, .unset, .unset, .unset, .unset, .unset, .unset, .unset, .unset, .unset, .unset, .unset]) at_57 rfl rfl ?_
    exact OwnW.Go.more (by decide) (by decide) (part59 l Z a0 hw p0 p1 p2 p3 (0 : Int32) e_BASE16 (4 : Int32) t_BASE16 cs sv h0 h0 n0 Z0 (OwnW.ext_refl h0) O_BASE16_bits E_BASE16 Ft_BASE16 Tt_BASE16 S_CS S_SF hcs hsv (by decide))
  ·
    show GoB0 l Z n0 OwnW.One1 h0 0 0 8 #[.val (.int p0), .val (.int p1), .val (.long p2), .second, .val (.int p3), .val (.int (1 : Int32)), .unset, .unset, .unset, .unset, .unset, .unset, .unset, .unset, .unset, .unset, .unset, .unset, .unset, .unset, .unset, .unset, .unset, .unset] []
    refine OwnW.iload (pc' := 10) at_8 rfl rfl ?_
    refine OwnW.ifcY (pc' := 19) at_10 ((if0 _ _).trans (feq (by decide)).2) (by decide) (by decide) ?_
    refine OwnW.iload (pc' := 21) at_19 rfl rfl ?_
    refine OwnW.iconst (pc' := 22) (v := (1 : Int32)) at_21 rfl rfl ?_
    refine OwnW.icmpN (pc' := 25) at_22 (teq (by decide)).2 rfl ?_
    refine OwnW.getS (a0 := a0) (pc' := 28) at_25 (host := "") (Or.inl (hw _ (List.mem_of_getElem? (i := 119) rfl))) Via.refl (S_BASE32.ext (OwnW.ext_refl h0)) rfl ?_
    refine OwnW.goto (pc' := 34) at_28 (by decide) (by decide) ?_
    refine OwnW.astore (pc' := 36) (L' := #[.val (.int p0), .val (.int p1), .val (.long p2), .second, .val (.int p3), .val (.int (1 : Int32)), .val (.ref e_BASE32), .unset, .unset, .unset, .unset, .unset, .unset, .unset, .unset, .unset, .unset, .unset, .unset, .unset, .unset, .unset, .unset, .unset]) at_34 (rfl) rfl rfl ?_
    refine OwnW.iload (pc' := 38) at_36 rfl rfl ?_
    refine OwnW.ifcY (pc' := 45) at_38 ((if0 _ _).trans (feq (by decide)).2) (by decide) (by decide) ?_
    refine OwnW.iload (pc' := 47) at_45 rfl rfl ?_
    refine OwnW.iconst (pc' := 48) (v := (1 : Int32)) at_47 rfl rfl ?_
    refine OwnW.icmpN (pc' := 51) at_48 (teq (by decide)).2 rfl ?_
    refine OwnW.iconst (pc' := 52) (v := (5 : Int32)) at_51 rfl rfl ?_
    refine OwnW.goto (pc' := 57) at_52 (by decide) (by decide) ?_
    refine OwnW.istore (pc' := 59) (L' := #[.val (.int p0), .val (.int p1), .val (.long p2), .second, .val (.int p3), .val (.int (1 : Int32)), .val (.ref e_BASE32), .val (.int (5 : Int32)), .unset, .unset, .unset, .unset, .unset, .unset, .unset, .unset, .unset, .unset, .unset, .unset, .unset, .unset, .unset, .unset]) at_57 rfl rfl ?_
    exact OwnW.Go.more (by decide) (by decide) (part59 l Z a0 hw p0 p1 p2 p3 (1 : Int32) e_BASE32 (5 : Int32) t_BASE32 cs sv h0 h0 n0 Z0 (OwnW.ext_refl h0) O_BASE32_bits E_BASE32 Ft_BASE32 Tt_BASE32 S_CS S_SF hcs hsv (by decide))
  ·
    show GoB0 l Z n0 OwnW.One1 h0 0 0 8 #[.val (.int p0), .val (.int p1), .val (.long p2), .second, .val (.int p3), .val (.int (2 : Int32)), .unset, .unset, .unset, .unset, .unset, .unset, .unset, .unset, .unset, .unset, .unset, .unset, .unset, .unset, .unset, .unset, .unset, .unset] []
    refine OwnW.iload (pc' := 10) at_8 rfl rfl ?_
    refine OwnW.ifcY (pc' := 19) at_10 ((if0 _ _).trans (feq (by decide)).2) (by decide) (by decide) ?_
    refine OwnW.iload (pc' := 21) at_19 rfl rfl ?_
    refine OwnW.iconst (pc' := 22) (v := (1 : Int32)) at_21 rfl rfl ?_
    refine OwnW.icmpY (pc' := 31) at_22 (feq (by decide)).2 (by decide) (by decide) ?_
    refine OwnW.getS (a0 := a0) (pc' := 34) at_31 (host := "") (Or.inl (hw _ (List.mem_of_getElem? (i := 117) rfl))) Via.refl (S_BASE64URL.ext (OwnW.ext_refl h0)) rfl ?_
    refine OwnW.astore (pc' := 36) (L' := #[.val (.int p0), .val (.int p1), .val (.long p2), .second, .val (.int p3), .val (.int (2 : Int32)), .val (.ref e_BASE64URL), .unset, .unset, .unset, .unset, .unset, .unset, .unset, .unset, .unset, .unset, .unset, .unset, .unset, .unset, .unset, .unset, .unset]) at_34 (rfl) rfl rfl ?_
    refine OwnW.iload (pc' := 38) at_36 rfl rfl ?_
    refine OwnW.ifcY (pc' := 45) at_38 ((if0 _ _).trans (feq (by decide)).2) (by decide) (by decide) ?_
    refine OwnW.iload (pc' := 47) at_45 rfl rfl ?_
    refine OwnW.iconst (pc' := 48) (v := (1 : Int32)) at_47 rfl rfl ?_
    refine OwnW.icmpY (pc' := 55) at_48 (feq (by decide)).2 (by decide) (by decide) ?_
    refine OwnW.bipush (pc' := 57) (v := (6 : Int32)) at_55 rfl rfl ?_
    refine OwnW.istore (pc' := 59) (L' := #[.val (.int p0), .val (.int p1), .val (.long p2), .second, .val (.int p3), .val (.int (2 : Int32)), .val (.ref e_BASE64URL), .val (.int (6 : Int32)), .unset, .unset, .unset, .unset, .unset, .unset, .unset, .unset, .unset, .unset, .unset, .unset, .unset, .unset, .unset, .unset]) at_57 rfl rfl ?_
    exact OwnW.Go.more (by decide) (by decide) (part59 l Z a0 hw p0 p1 p2 p3 (2 : Int32) e_BASE64URL (6 : Int32) t_BASE64URL cs sv h0 h0 n0 Z0 (OwnW.ext_refl h0) O_BASE64URL_bits E_BASE64URL Ft_BASE64URL Tt_BASE64URL S_CS S_SF hcs hsv (by decide))
set_option maxRecDepth 65536 in
set_option maxHeartbeats 400000000 in
theorem comes_1 {Post : Tables → Env → Array Value → State → Outcome → State → Prop} (hpost : ∀ tb e args s v u, (limb_1_1.after args s (.returned v) u = true ∧ limb_1_2.after args s (.returned v) u = true ∧ True) → FrameEnd s (.returned v) u (Jvm.fieldLocs frame_1_writes args s ++ Jvm.arrayLocs frame_1_arrays args s ++ Jvm.staticLocs frame_1_statics s) 48 192 → Post tb e args s (.returned v) u) :
    ArmFor flags0 classFile x code maxLocals ret World_1 tables_1 room_1 Calls_1 rest_1 Pre_1 Post := by
  intro l hfl _ _ p e ha hc hk s m args below hf hA hF happ hP
  obtain ⟨hcalls, hrest, hpre⟩ := hP
  obtain ⟨-, -, -, hnamed, -, -, -, hat⟩ := (Spec.applies_iff hf).mp happ
  obtain ⟨hg, hn⟩ := and_e (Cond.before_iff.mp (show (Jvm.Cond.and given_1 narrow_1).before args s = true from hpre))
  obtain ⟨hcount, hr0⟩ := and_e hg
  obtain ⟨w0, w1, w2, w3, rfl⟩ : ∃ w0 w1 w2 w3 : Value, args = #[w0, w1, w2, w3] := by
    have hs : args.size = 4 := by simpa [Cond.value, given_1] using hcount
    obtain ⟨L⟩ := args
    match L, hs with
    | [w0, w1, w2, w3], _ => exact ⟨w0, w1, w2, w3, rfl⟩
  have hw := fun d (hd : d ∈ tables_1) => atoms_spec (ws := Jvm.Cond.code x code maxLocals ret :: tables_1) hat d (List.mem_cons_of_mem _ hd)
  have hfit : Fit s := fun {y c} hc i hi => by
    obtain ⟨ha, rfl⟩ := Array.getElem?_eq_some_iff.mp hc
    have q := List.all_eq_true.mp ((Array.all_eq_true_iff_forall_mem.mp hF) _ (Array.getElem_mem ha)) i (List.mem_range.mpr hi)
    simpa [Array.getElem?_eq_getElem hi] using q
  obtain ⟨hq0, hr1⟩ := and_e hr0
  obtain ⟨i0, ei0⟩ := is_v hq0
  obtain rfl : w0 = (.int i0) := Option.some.inj ei0
  obtain ⟨hq1, hr2⟩ := and_e hr1
  obtain ⟨i1, ei1⟩ := is_v hq1
  obtain rfl : w1 = (.int i1) := Option.some.inj ei1
  obtain ⟨hq2, hr3⟩ := and_e hr2
  obtain ⟨i2, ei2⟩ := isL_v hq2
  obtain rfl : w2 = (.long i2) := Option.some.inj ei2
  obtain ⟨i3, ei3⟩ := is_v hr3
  obtain rfl : w3 = (.int i3) := Option.some.inj ei3
  obtain ⟨hN0, hM0⟩ := and_e hn
  obtain ⟨hN1, hM1⟩ := and_e hM0
  obtain ⟨hN2, hM2⟩ := and_e hM1
  obtain ⟨hN3, hM3⟩ := and_e hM2
  obtain ⟨hN4, hM4⟩ := and_e hM3
  obtain ⟨hN5, hM5⟩ := and_e hM4
  obtain ⟨hN6, hM6⟩ := and_e hM5
  obtain ⟨hN7, hM7⟩ := and_e hM6
  obtain ⟨hN8, hM8⟩ := and_e hM7
  obtain ⟨hN9, hM9⟩ := and_e hM8
  obtain ⟨hN10, hM10⟩ := and_e hM9
  obtain ⟨hN11, hM11⟩ := and_e hM10
  obtain ⟨hN12, hM12⟩ := and_e hM11
  obtain ⟨hN13, hM13⟩ := and_e hM12
  obtain ⟨hN14, hM14⟩ := and_e hM13
  obtain ⟨hN15, hM15⟩ := and_e hM14
  obtain ⟨hN16, hM16⟩ := and_e hM15
  obtain ⟨hN17, hM17⟩ := and_e hM16
  obtain ⟨hN18, hM18⟩ := and_e hM17
  obtain ⟨hN19, hM19⟩ := and_e hM18
  obtain ⟨hN20, hM20⟩ := and_e hM19
  obtain ⟨hN21, hM21⟩ := and_e hM20
  obtain ⟨hN22, hM22⟩ := and_e hM21
  obtain ⟨hN23, hM23⟩ := and_e hM22
  obtain ⟨hN24, hM24⟩ := and_e hM23
  obtain ⟨hN25, hM25⟩ := and_e hM24
  obtain ⟨hN26, hM26⟩ := and_e hM25
  obtain ⟨hN27, hM27⟩ := and_e hM26
  obtain ⟨hN28, hM28⟩ := and_e hM27
  obtain ⟨hN29, hM29⟩ := and_e hM28
  obtain ⟨hN30, hM30⟩ := and_e hM29
  obtain ⟨hN31, hM31⟩ := and_e hM30
  obtain ⟨hN32, hM32⟩ := and_e hM31
  have hN33 := hM32
  obtain ⟨e_BASE16, ev_BASE16⟩ := exa_v hN0
  have S_BASE16 : Sta s s.heap "com/example/plumbline/plumbline/BaseEncoding" "BASE16" "Lcom/example/plumbline/plumbline/BaseEncoding;" (.ref e_BASE16) := Sta.start ev_BASE16 (Or.inr ⟨(hw _ (List.mem_of_getElem? (i := 2) rfl)), (hw _ (List.mem_of_getElem? (i := 3) rfl))⟩)
  have E_BASE16 : Exa s s.heap e_BASE16 "com/example/plumbline/plumbline/BaseEncoding" := Exa.start ev_BASE16 hN0
  obtain ⟨e_BASE64URL, ev_BASE64URL⟩ := exa_v hN4
  have S_BASE64URL : Sta s s.heap "com/example/plumbline/plumbline/BaseEncoding" "BASE64URL" "Lcom/example/plumbline/plumbline/BaseEncoding;" (.ref e_BASE64URL) := Sta.start ev_BASE64URL (Or.inr ⟨(hw _ (List.mem_of_getElem? (i := 2) rfl)), (hw _ (List.mem_of_getElem? (i := 118) rfl))⟩)
  have E_BASE64URL : Exa s s.heap e_BASE64URL "com/example/plumbline/plumbline/BaseEncoding" := Exa.start ev_BASE64URL hN4
  obtain ⟨e_BASE32, ev_BASE32⟩ := exa_v hN8
  have S_BASE32 : Sta s s.heap "com/example/plumbline/plumbline/BaseEncoding" "BASE32" "Lcom/example/plumbline/plumbline/BaseEncoding;" (.ref e_BASE32) := Sta.start ev_BASE32 (Or.inr ⟨(hw _ (List.mem_of_getElem? (i := 2) rfl)), (hw _ (List.mem_of_getElem? (i := 120) rfl))⟩)
  have E_BASE32 : Exa s s.heap e_BASE32 "com/example/plumbline/plumbline/BaseEncoding" := Exa.start ev_BASE32 hN8
  have O_BASE16_bits : Fld s s.heap e_BASE16 "com/example/plumbline/plumbline/BaseEncoding" "bits" "I" (.int (4 : Int32)) := Fld.start ((fld_at ev_BASE16).symm.trans (OwnW.eqI hN3 (Term.int_eval (4 : Int32))))
  have O_BASE64URL_bits : Fld s s.heap e_BASE64URL "com/example/plumbline/plumbline/BaseEncoding" "bits" "I" (.int (6 : Int32)) := Fld.start ((fld_at ev_BASE64URL).symm.trans (OwnW.eqI hN7 (Term.int_eval (6 : Int32))))
  have O_BASE32_bits : Fld s s.heap e_BASE32 "com/example/plumbline/plumbline/BaseEncoding" "bits" "I" (.int (5 : Int32)) := Fld.start ((fld_at ev_BASE32).symm.trans (OwnW.eqI hN11 (Term.int_eval (5 : Int32))))
  obtain ⟨t_BASE16, Ft_BASE16, Tt_BASE16⟩ := own_tab_BASE16 hfit ev_BASE16 hN1 hN2 hN12 hN13 hN14 hN15 hN16
  obtain ⟨t_BASE32, Ft_BASE32, Tt_BASE32⟩ := own_tab_BASE32 hfit ev_BASE32 hN9 hN10 hN29 hN30 hN31 hN32 hN33
  obtain ⟨t_BASE64URL, Ft_BASE64URL, Tt_BASE64URL⟩ := own_tab_BASE64URL hfit ev_BASE64URL hN5 hN6 hN17 hN18 hN19 hN20 hN21 hN22 hN23 hN24 hN25 hN26 hN27 hN28
  obtain ⟨hsets, hown0⟩ := atoms_of _ (rest_1_c_eq ▸ (show rest_1_c.before _ s = true from hrest))
  obtain ⟨cs, evcs⟩ := is_v (Cond.before_iff.mp (hsets _ (List.mem_of_getElem? (i := 1) rfl)))
  have S_CS : Sta s s.heap "java/lang/String" "COMPACT_STRINGS" "Z" (.int cs) := Sta.start evcs (Or.inl (hsets _ (List.mem_of_getElem? (i := 0) rfl)))
  have hcs : ¬ cs = (0 : Int32) := fun z => by
    have q := Cond.before_iff.mp (hsets _ (List.mem_of_getElem? (i := 2) rfl))
    simp [Cond.value, evcs, Term.int_eval, z] at q
  obtain ⟨sv, evsv, hsv⟩ := own_ref (Cond.before_iff.mp (hsets _ (List.mem_of_getElem? (i := 8) rfl)))
  have S_SF : Sta s s.heap "jdk/internal/util/Preconditions" "SIOOBE_FORMATTER" "Ljava/util/function/BiFunction;" sv := Sta.start evsv (Or.inl (hsets _ (List.mem_of_getElem? (i := 7) rfl)))
  obtain ⟨n, o, h1, h2, h3, _, L, rfl, ⟨rfl, N⟩, hq⟩ := rm0 l s _ hw i0 i1 i2 i3 e_BASE16 e_BASE64URL e_BASE32 t_BASE16 t_BASE32 t_BASE64URL cs sv s.heap s.heap.size (Nat.le_refl _) S_BASE16 E_BASE16 S_BASE64URL E_BASE64URL S_BASE32 E_BASE32 O_BASE16_bits O_BASE64URL_bits O_BASE32_bits Ft_BASE16 Tt_BASE16 Ft_BASE32 Tt_BASE32 Ft_BASE64URL Tt_BASE64URL S_CS S_SF hcs hsv tables_1 p e ha hc hk s m _ below hf ((Spec.applies_iff_loose hf).mp happ).1 ⟨rfl, State.Warmed39.refl s, rfl⟩ trivial
  refine ⟨n, _, h1, h2, h3, hpost _ _ _ _ _ _ ⟨Cond.after_iff.mpr rfl, Cond.after_iff.mpr (eq_i res_at (Term.int_eval (1)) rfl), trivial⟩ ⟨hq.1, hq.2.1, (hq.2.2.sift fun y hy => Or.inr (N y hy)).mono (by decide) (by decide)⟩⟩
theorem main_1_1 : Claimed_1_1 := comes_1 fun _ _ _ _ _ _ h hF => ⟨h.1, hF⟩
theorem main_1_2 : Claimed_1_2 := comes_1 fun _ _ _ _ _ _ h hF => ⟨h.2.1, hF⟩
end Jvm.Pilot.@@N@@
namespace Jvm.Pilot.@@N@@
open Jvm Jvm.ClassFile Sem Op Lib Jvm.Free Jvm.Stand Jvm.Pilot.@@N@@.Jvm.D
/-! MADE BY PROGRAM (witnessworld.py) out of the Statement's table words and the real class files: 19 classes; the members and pool entries that the words name. The judged class is class 1, her method 1. -/
namespace start1
open Jvm.ClassFile
def u (s : String) : CpInfo := .utf8 (stringToUtf16 s)
/-- a pool by its gaps: so many unusable entries, then the entry; so many at the end -/
def gap : Nat → List CpInfo → List CpInfo
  | 0, r => r
  | n + 1, r => .unusable :: gap n r
def poolList (es : List (Nat × CpInfo)) (last : Nat) : List CpInfo := es.foldr (fun e r => gap e.1 (e.2 :: r)) (gap last [])
def pool (es : List (Nat × CpInfo)) (last : Nat) : Array CpInfo := ⟨poolList es last⟩
def fileOf (pool : Array CpInfo) (this : Nat) (attrs : Array Attribute := #[]) (ms : Array MethodInfo := #[]) (fl : Nat := 33) (sup : Nat := 0) (ifs : Array Nat := #[]) (fds : Array FieldInfo := #[]) : ClassFile where
  minorVersion := 0
  majorVersion := 65
  constantPool := pool
  accessFlags := fl
  thisClass := this
  superClass := sup
  interfaces := ifs
  fields := fds
  methods := ms
  attributes := attrs
def plain (name : String) (sup : Option ClassId) : Class where
  name := name
  kind := .ordinary
  loader := none
  accessFlags := 33
  super := sup
  interfaces := #[]
  cf := none
  fields := #[]
  methods := #[]
  instanceTypes := #[]
  staticTypes := #[]
  resolved := #[]
  callSites := []
  init := .initialized
  statics := none
  mirror := none

def pool0 : Array CpInfo := pool [(5, u "<init>"), (0, u "()V"), (1, .class_ 10), (1, u "java/lang/Object")] 113

def k0c0 : Code := { maxStack := 0, maxLocals := 1, code := object_method_1_code, exceptionTable := #[], attributes := #[] }
def k0m0 : Method := { name := "<init>", desc := "()V", sig := { parameters := [], returnType := none }, accessFlags := 1, code := some k0c0 }
/-- java/lang/Object -/
def k0 : Class := { plain "java/lang/Object" none with
  accessFlags := 33
  interfaces := #[]
  cf := some (fileOf pool0 8 #[] #[{ accessFlags := 1, nameIndex := 5, descriptorIndex := 6, attributes := #[] }] 33 0 #[] #[])
  fields := #[]
  methods := #[k0m0]
  instanceTypes := #[]
  staticTypes := #[]
  resolved := Array.replicate 124 none
  statics := none }

def pool1 : Array CpInfo := pool [(2, .class_ 4), (1, u "java/lang/Object"), (0, u "<init>"), (0, u "()V"), (0, .integer 2147483647), (0, .fieldref 9 10), (0, .class_ 11), (0, .nameAndType 12 13), (0, u "com/example/plumbline/plumbline/BaseEncoding"), (0, u "BASE16"), (0, u "Lcom/example/plumbline/plumbline/BaseEncoding;"), (0, .fieldref 9 15), (0, .nameAndType 16 13), (0, u "BASE32"), (0, .fieldref 9 18), (0, .nameAndType 19 13), (0, u "BASE64URL"), (0, .methodref 21 22), (0, .class_ 23), (0, .nameAndType 24 25), (0, u "com/example/plumbline/plumbline/ReadingIsEncodingPinLaw"), (0, u "draw"), (0, u "(IIJII)C"), (0, .class_ 27), (0, u "com/example/plumbline/plumbline/BaseEncoding$Reading"), (0, .methodref 26 29), (0, .nameAndType 5 30), (0, u "(Lcom/example/plumbline/plumbline/BaseEncoding;[B)V"), (0, .methodref 32 33), (0, .class_ 34), (0, .nameAndType 35 36), (0, u "java/lang/String"), (0, u "valueOf"), (0, u "(C)Ljava/lang/String;"), (0, .methodref 26 38), (0, .nameAndType 39 40), (0, u "append"), (0, u "(Ljava/lang/CharSequence;)V"), (0, .methodref 26 42), (0, .nameAndType 43 44), (0, u "isEncoding"), (0, u "()Z"), (0, .methodref 21 46), (0, .nameAndType 47 48), (0, u "ok"), (0, u "(ICII)Z"), (0, .methodref 21 50), (0, .nameAndType 51 52), (0, u "valOf"), (0, u "(IC)I"), (0, .long 255), (1, .methodref 21 56), (0, .nameAndType 57 58), (0, u "charOf"), (0, u "(II)C"), (2, u "law"), (0, u "(IIJI)Z")] 7

def k1m0 : Method := { name := "<init>", desc := "()V", sig := { parameters := [], returnType := none }, accessFlags := 1, code := none }
def k1c1 : Code := { maxStack := 6, maxLocals := 24, code := code, exceptionTable := #[], attributes := #[] }
def k1m1 : Method := { name := "law", desc := "(IIJI)Z", sig := { parameters := [.int, .int, .long, .int], returnType := some .boolean }, accessFlags := 9, code := some k1c1 }
def k1c2 : Code := { maxStack := 4, maxLocals := 7, code := method_3_code, exceptionTable := #[], attributes := #[] }
def k1m2 : Method := { name := "draw", desc := "(IIJII)C", sig := { parameters := [.int, .int, .long, .int, .int], returnType := some .char }, accessFlags := 10, code := some k1c2 }
def k1c3 : Code := { maxStack := 2, maxLocals := 4, code := method_4_code, exceptionTable := #[], attributes := #[] }
def k1m3 : Method := { name := "ok", desc := "(ICII)Z", sig := { parameters := [.int, .char, .int, .int], returnType := some .boolean }, accessFlags := 10, code := some k1c3 }
def k1c4 : Code := { maxStack := 2, maxLocals := 2, code := method_5_code, exceptionTable := #[], attributes := #[] }
def k1m4 : Method := { name := "charOf", desc := "(II)C", sig := { parameters := [.int, .int], returnType := some .char }, accessFlags := 10, code := some k1c4 }
def k1c5 : Code := { maxStack := 2, maxLocals := 2, code := method_6_code, exceptionTable := #[], attributes := #[] }
def k1m5 : Method := { name := "valOf", desc := "(IC)I", sig := { parameters := [.int, .char], returnType := some .int }, accessFlags := 10, code := some k1c5 }
/-- com/example/plumbline/plumbline/ReadingIsEncodingPinLaw -/
def k1 : Class := { plain "com/example/plumbline/plumbline/ReadingIsEncodingPinLaw" (some 0) with
  accessFlags := 49
  interfaces := #[]
  cf := some (fileOf pool1 21 #[] #[{ accessFlags := 1, nameIndex := 5, descriptorIndex := 6, attributes := #[] }, { accessFlags := 9, nameIndex := 61, descriptorIndex := 62, attributes := #[] }, { accessFlags := 10, nameIndex := 24, descriptorIndex := 25, attributes := #[] }, { accessFlags := 10, nameIndex := 47, descriptorIndex := 48, attributes := #[] }, { accessFlags := 10, nameIndex := 57, descriptorIndex := 58, attributes := #[] }, { accessFlags := 10, nameIndex := 51, descriptorIndex := 52, attributes := #[] }] 49 2 #[] #[])
  fields := #[]
  methods := #[k1m0, k1m1, k1m2, k1m3, k1m4, k1m5]
  instanceTypes := #[]
  staticTypes := #[]
  resolved := Array.replicate 70 none
  statics := none }

def pool2 : Array CpInfo := pool [(1, .class_ 2), (0, u "java/lang/constant/Constable"), (0, .class_ 4), (0, u "java/lang/Object")] 6

/-- java/lang/constant/Constable -/
def k2 : Class := { plain "java/lang/constant/Constable" (some 0) with
  accessFlags := 1537
  interfaces := #[]
  cf := some (fileOf pool2 1 #[] #[] 1537 3 #[] #[])
  fields := #[]
  methods := #[]
  instanceTypes := #[]
  staticTypes := #[]
  resolved := Array.replicate 11 none
  statics := none }

def pool3 : Array CpInfo := pool [(1, .class_ 2), (0, u "java/lang/Comparable"), (0, .class_ 4), (0, u "java/lang/Object")] 7

/-- java/lang/Comparable -/
def k3 : Class := { plain "java/lang/Comparable" (some 0) with
  accessFlags := 1537
  interfaces := #[]
  cf := some (fileOf pool3 1 #[] #[] 1537 3 #[] #[])
  fields := #[]
  methods := #[]
  instanceTypes := #[]
  staticTypes := #[]
  resolved := Array.replicate 12 none
  statics := none }

def pool4 : Array CpInfo := pool [(1, .class_ 2), (0, u "java/io/Serializable"), (0, .class_ 4), (0, u "java/lang/Object")] 2

/-- java/io/Serializable -/
def k4 : Class := { plain "java/io/Serializable" (some 0) with
  accessFlags := 1537
  interfaces := #[]
  cf := some (fileOf pool4 1 #[] #[] 1537 3 #[] #[])
  fields := #[]
  methods := #[]
  instanceTypes := #[]
  staticTypes := #[]
  resolved := Array.replicate 7 none
  statics := none }

def pool5 : Array CpInfo := pool [(2, .class_ 4), (1, u "java/lang/Enum"), (0, u "name"), (0, u "Ljava/lang/String;"), (2, u "ordinal"), (0, u "I"), (1, .class_ 14), (1, u "java/lang/Object"), (4, u "hash"), (86, .class_ 108), (1, u "java/lang/Enum$EnumDesc"), (2, .class_ 112), (0, u "java/lang/constant/Constable"), (0, .class_ 114), (0, u "java/lang/Comparable"), (0, .class_ 116), (0, u "java/io/Serializable")] 87

/-- java/lang/Enum -/
def k5 : Class := { plain "java/lang/Enum" (some 0) with
  accessFlags := 1057
  interfaces := #[2, 3, 4]
  cf := some (fileOf pool5 2 #[.nestMembers #[106]] #[] 1057 12 #[111, 113, 115] #[{ accessFlags := 18, nameIndex := 5, descriptorIndex := 6, attributes := #[] }, { accessFlags := 18, nameIndex := 9, descriptorIndex := 10, attributes := #[] }, { accessFlags := 2, nameIndex := 19, descriptorIndex := 10, attributes := #[] }])
  fields := #[{ name := "name", type := (.object "java/lang/String"), accessFlags := 18, slot := 0, constantValue := 0 }, { name := "ordinal", type := .int, accessFlags := 18, slot := 1, constantValue := 0 }, { name := "hash", type := .int, accessFlags := 2, slot := 2, constantValue := 0 }]
  methods := #[]
  instanceTypes := #[(.object "java/lang/String"), .int, .int]
  staticTypes := #[]
  resolved := Array.replicate 204 none
  statics := none }

def pool6 : Array CpInfo := pool [(1, .class_ 2), (0, u "com/example/plumbline/plumbline/BaseEncoding"), (2, u "BASE16"), (0, u "Lcom/example/plumbline/plumbline/BaseEncoding;"), (2, u "BASE32"), (2, u "BASE64URL"), (2, u "$VALUES"), (0, u "[Lcom/example/plumbline/plumbline/BaseEncoding;"), (6, .class_ 25), (1, u "java/lang/Enum"), (8, u "values"), (0, u "[I"), (2, u "alphabet"), (0, u "Ljava/lang/String;"), (18, u "bits"), (0, u "I"), (4, .class_ 65), (0, u "com/example/plumbline/plumbline/BaseEncoding$Reading"), (49, u "ASCII")] 22

/-- com/example/plumbline/plumbline/BaseEncoding -/
def k6 : Class := { plain "com/example/plumbline/plumbline/BaseEncoding" (some 5) with
  accessFlags := 16432
  interfaces := #[]
  cf := some (fileOf pool6 1 #[.nestMembers #[64]] #[] 16432 23 #[] #[{ accessFlags := 16409, nameIndex := 5, descriptorIndex := 6, attributes := #[] }, { accessFlags := 16409, nameIndex := 9, descriptorIndex := 6, attributes := #[] }, { accessFlags := 16409, nameIndex := 12, descriptorIndex := 6, attributes := #[] }, { accessFlags := 26, nameIndex := 115, descriptorIndex := 59, attributes := #[] }, { accessFlags := 18, nameIndex := 38, descriptorIndex := 39, attributes := #[] }, { accessFlags := 18, nameIndex := 34, descriptorIndex := 35, attributes := #[] }, { accessFlags := 18, nameIndex := 58, descriptorIndex := 59, attributes := #[] }, { accessFlags := 4122, nameIndex := 15, descriptorIndex := 16, attributes := #[] }])
  fields := #[{ name := "BASE16", type := (.object "com/example/plumbline/plumbline/BaseEncoding"), accessFlags := 16409, slot := 0, constantValue := 0 }, { name := "BASE32", type := (.object "com/example/plumbline/plumbline/BaseEncoding"), accessFlags := 16409, slot := 1, constantValue := 0 }, { name := "BASE64URL", type := (.object "com/example/plumbline/plumbline/BaseEncoding"), accessFlags := 16409, slot := 2, constantValue := 0 }, { name := "ASCII", type := .int, accessFlags := 26, slot := 3, constantValue := 0 }, { name := "alphabet", type := (.object "java/lang/String"), accessFlags := 18, slot := 3, constantValue := 0 }, { name := "values", type := (.array .int), accessFlags := 18, slot := 4, constantValue := 0 }, { name := "bits", type := .int, accessFlags := 18, slot := 5, constantValue := 0 }, { name := "$VALUES", type := (.array (.object "com/example/plumbline/plumbline/BaseEncoding")), accessFlags := 4122, slot := 4, constantValue := 0 }]
  methods := #[]
  instanceTypes := #[(.object "java/lang/String"), .int, .int, (.object "java/lang/String"), (.array .int), .int]
  staticTypes := #[(.object "com/example/plumbline/plumbline/BaseEncoding"), (.object "com/example/plumbline/plumbline/BaseEncoding"), (.object "com/example/plumbline/plumbline/BaseEncoding"), .int, (.array (.object "com/example/plumbline/plumbline/BaseEncoding"))]
  resolved := Array.replicate 138 none
  statics := some 0 }

def pool7 : Array CpInfo := pool [(1, .class_ 2), (0, u "com/example/plumbline/plumbline/BaseEncoding"), (0, .methodref 4 5), (0, .class_ 6), (0, .nameAndType 7 8), (0, u "java/lang/Object"), (0, u "<init>"), (0, u "()V"), (0, .fieldref 10 11), (0, .class_ 12), (0, .nameAndType 13 14), (0, u "com/example/plumbline/plumbline/BaseEncoding$Reading"), (0, u "inAlphabet"), (0, u "Z"), (0, .fieldref 10 16), (0, .nameAndType 17 18), (0, u "encoding"), (0, u "Lcom/example/plumbline/plumbline/BaseEncoding;"), (0, .fieldref 10 20), (0, .nameAndType 21 22), (0, u "bytes"), (0, u "[B"), (0, .interfaceMethodref 24 25), (0, .class_ 26), (0, .nameAndType 27 28), (0, u "java/lang/CharSequence"), (0, u "length"), (0, u "()I"), (0, .interfaceMethodref 24 30), (0, .nameAndType 31 32), (0, u "charAt"), (0, u "(I)C"), (0, .fieldref 1 34), (0, .nameAndType 35 36), (0, u "values"), (0, u "[I"), (0, .methodref 10 38), (0, .nameAndType 39 40), (0, u "take"), (0, u "(I)V"), (0, .fieldref 10 42), (0, .nameAndType 43 44), (0, u "pending"), (0, u "I"), (0, .fieldref 1 46), (0, .nameAndType 47 44), (0, u "bits"), (0, .fieldref 10 49), (0, .nameAndType 50 44), (0, u "held"), (2, .fieldref 10 54), (0, .nameAndType 55 44), (0, u "count"), (0, u "(Lcom/example/plumbline/plumbline/BaseEncoding;[B)V"), (2, u "append"), (0, u "(Ljava/lang/CharSequence;)V"), (1, u "isEncoding"), (0, u "()Z")] 5

def k7c0 : Code := { maxStack := 2, maxLocals := 3, code := prog_5_method_1_code, exceptionTable := #[], attributes := #[] }
def k7m0 : Method := { name := "<init>", desc := "(Lcom/example/plumbline/plumbline/BaseEncoding;[B)V", sig := { parameters := [(.object "com/example/plumbline/plumbline/BaseEncoding"), (.array .byte)], returnType := none }, accessFlags := 0, code := some k7c0 }
def k7c1 : Code := { maxStack := 2, maxLocals := 5, code := prog_5_method_2_code, exceptionTable := #[], attributes := #[] }
def k7m1 : Method := { name := "append", desc := "(Ljava/lang/CharSequence;)V", sig := { parameters := [(.object "java/lang/CharSequence")], returnType := none }, accessFlags := 0, code := some k7c1 }
def k7c2 : Code := { maxStack := 4, maxLocals := 2, code := prog_5_method_3_code, exceptionTable := #[], attributes := #[] }
def k7m2 : Method := { name := "take", desc := "(I)V", sig := { parameters := [.int], returnType := none }, accessFlags := 2, code := some k7c2 }
def k7c3 : Code := { maxStack := 2, maxLocals := 1, code := prog_5_method_4_code, exceptionTable := #[], attributes := #[] }
def k7m3 : Method := { name := "isEncoding", desc := "()Z", sig := { parameters := [], returnType := some .boolean }, accessFlags := 0, code := some k7c3 }
/-- com/example/plumbline/plumbline/BaseEncoding$Reading -/
def k7 : Class := { plain "com/example/plumbline/plumbline/BaseEncoding$Reading" (some 0) with
  accessFlags := 48
  interfaces := #[]
  cf := some (fileOf pool7 10 #[.nestHost 1] #[{ accessFlags := 0, nameIndex := 7, descriptorIndex := 56, attributes := #[] }, { accessFlags := 0, nameIndex := 59, descriptorIndex := 60, attributes := #[] }, { accessFlags := 2, nameIndex := 39, descriptorIndex := 40, attributes := #[] }, { accessFlags := 0, nameIndex := 62, descriptorIndex := 63, attributes := #[] }] 48 4 #[] #[{ accessFlags := 18, nameIndex := 17, descriptorIndex := 18, attributes := #[] }, { accessFlags := 18, nameIndex := 21, descriptorIndex := 22, attributes := #[] }, { accessFlags := 2, nameIndex := 55, descriptorIndex := 44, attributes := #[] }, { accessFlags := 2, nameIndex := 43, descriptorIndex := 44, attributes := #[] }, { accessFlags := 2, nameIndex := 50, descriptorIndex := 44, attributes := #[] }, { accessFlags := 2, nameIndex := 13, descriptorIndex := 14, attributes := #[] }])
  fields := #[{ name := "encoding", type := (.object "com/example/plumbline/plumbline/BaseEncoding"), accessFlags := 18, slot := 0, constantValue := 0 }, { name := "bytes", type := (.array .byte), accessFlags := 18, slot := 1, constantValue := 0 }, { name := "count", type := .int, accessFlags := 2, slot := 2, constantValue := 0 }, { name := "pending", type := .int, accessFlags := 2, slot := 3, constantValue := 0 }, { name := "held", type := .int, accessFlags := 2, slot := 4, constantValue := 0 }, { name := "inAlphabet", type := .boolean, accessFlags := 2, slot := 5, constantValue := 0 }]
  methods := #[k7m0, k7m1, k7m2, k7m3]
  instanceTypes := #[(.object "com/example/plumbline/plumbline/BaseEncoding"), (.array .byte), .int, .int, .int, .boolean]
  staticTypes := #[]
  resolved := Array.replicate 69 none
  statics := none }

def pool8 : Array CpInfo := pool [(2, .class_ 4), (1, u "java/lang/CharSequence"), (0, u "length"), (0, u "()I"), (38, u "charAt"), (0, u "(I)C"), (0, .class_ 48), (0, u "java/lang/CharSequence$1CodePointIterator"), (10, .class_ 60), (0, u "java/lang/CharSequence$1CharIterator"), (5, .class_ 67), (0, u "java/lang/Object")] 63

def k8m0 : Method := { name := "length", desc := "()I", sig := { parameters := [], returnType := some .int }, accessFlags := 1025, code := none }
def k8m1 : Method := { name := "charAt", desc := "(I)C", sig := { parameters := [.int], returnType := some .char }, accessFlags := 1025, code := none }
/-- java/lang/CharSequence -/
def k8 : Class := { plain "java/lang/CharSequence" (some 0) with
  accessFlags := 1537
  interfaces := #[]
  cf := some (fileOf pool8 2 #[.nestMembers #[47, 59]] #[{ accessFlags := 1025, nameIndex := 5, descriptorIndex := 6, attributes := #[] }, { accessFlags := 1025, nameIndex := 45, descriptorIndex := 46, attributes := #[] }] 1537 66 #[] #[])
  fields := #[]
  methods := #[k8m0, k8m1]
  instanceTypes := #[]
  staticTypes := #[]
  resolved := Array.replicate 131 none
  statics := none }

def pool9 : Array CpInfo := pool [(1, .class_ 2), (0, u "java/lang/constant/ConstantDesc"), (0, .class_ 4), (0, u "java/lang/Object")] 32

/-- java/lang/constant/ConstantDesc -/
def k9 : Class := { plain "java/lang/constant/ConstantDesc" (some 0) with
  accessFlags := 1537
  interfaces := #[]
  cf := some (fileOf pool9 1 #[] #[] 1537 3 #[] #[])
  fields := #[]
  methods := #[]
  instanceTypes := #[]
  staticTypes := #[]
  resolved := Array.replicate 37 none
  statics := none }

def pool10 : Array CpInfo := pool [(1, .methodref 2 3), (0, .class_ 4), (0, .nameAndType 5 6), (0, u "java/lang/Object"), (0, u "<init>"), (0, u "()V"), (2, .fieldref 10 11), (0, .class_ 12), (0, .nameAndType 13 14), (0, u "java/lang/String"), (0, u "value"), (0, u "[B"), (0, .fieldref 10 16), (0, .nameAndType 17 18), (0, u "coder"), (0, u "B"), (2, u "hash"), (0, u "I"), (2, u "hashIsZero"), (0, u "Z"), (11, .fieldref 10 39), (0, .nameAndType 40 26), (0, u "COMPACT_STRINGS"), (12, u "toBytes"), (53, .class_ 109), (1, u "java/lang/StringLatin1"), (32, u "()Z"), (66, .methodref 10 210), (0, .nameAndType 5 211), (0, u "([BB)V"), (122, u "()I"), (0, .methodref 10 336), (0, .nameAndType 17 337), (0, u "()B"), (25, u "([BI)C"), (5, u "(C)Z"), (21, u "(II)V"), (35, u "(I)C"), (64, .methodref 10 493), (0, .nameAndType 494 142), (0, u "isLatin1"), (0, .methodref 107 496), (0, .nameAndType 497 363), (0, u "charAt"), (3, u "checkIndex"), (5, u "length"), (67, .class_ 576), (0, u "java/lang/CharSequence"), (22, u "CASE_INSENSITIVE_ORDER"), (0, u "Ljava/util/Comparator;"), (181, u "valueOf"), (0, u "(C)Ljava/lang/String;"), (231, .methodref 107 1016), (0, .nameAndType 1017 369), (0, u "canEncode"), (0, .methodref 107 1019), (0, .nameAndType 53 1020), (0, u "(C)[B"), (32, .fieldref 1054 1055), (0, .class_ 1056), (0, .nameAndType 1057 1058), (0, u "jdk/internal/util/Preconditions"), (0, u "SIOOBE_FORMATTER"), (0, u "Ljava/util/function/BiFunction;"), (0, .methodref 1054 1060), (0, .nameAndType 501 1061), (0, u "(IILjava/util/function/BiFunction;)I"), (39, u "serialPersistentFields"), (0, u "[Ljava/io/ObjectStreamField;"), (0, .class_ 1104), (0, u "java/lang/String$CaseInsensitiveComparator"), (1, .class_ 1107), (0, u "java/io/Serializable"), (0, .class_ 1109), (0, u "java/lang/Comparable"), (0, .class_ 1111), (0, u "java/lang/constant/Constable"), (0, .class_ 1113), (0, u "java/lang/constant/ConstantDesc"), (2, u "serialVersionUID"), (0, u "J"), (3, u "REPL"), (0, u "C"), (2, u "LATIN1"), (1, u "UTF16")] 323

def k10m0 : Method := { name := "<init>", desc := "()V", sig := { parameters := [], returnType := none }, accessFlags := 1, code := none }
def k10c1 : Code := { maxStack := 2, maxLocals := 1, code := jdk_42_method_54_code, exceptionTable := #[], attributes := #[] }
def k10m1 : Method := { name := "length", desc := "()I", sig := { parameters := [], returnType := some .int }, accessFlags := 1, code := some k10c1 }
def k10c2 : Code := { maxStack := 2, maxLocals := 2, code := jdk_42_method_56_code, exceptionTable := #[], attributes := #[] }
def k10m2 : Method := { name := "charAt", desc := "(I)C", sig := { parameters := [.int], returnType := some .char }, accessFlags := 1, code := some k10c2 }
def k10c3 : Code := { maxStack := 4, maxLocals := 1, code := jdk_42_method_139_code, exceptionTable := #[], attributes := #[] }
def k10m3 : Method := { name := "valueOf", desc := "(C)Ljava/lang/String;", sig := { parameters := [.char], returnType := some (.object "java/lang/String") }, accessFlags := 9, code := some k10c3 }
def k10c4 : Code := { maxStack := 2, maxLocals := 3, code := jdk_42_method_151_code, exceptionTable := #[], attributes := #[] }
def k10m4 : Method := { name := "<init>", desc := "([BB)V", sig := { parameters := [(.array .byte), .byte], returnType := none }, accessFlags := 0, code := some k10c4 }
def k10c5 : Code := { maxStack := 1, maxLocals := 1, code := jdk_42_method_152_code, exceptionTable := #[], attributes := #[] }
def k10m5 : Method := { name := "coder", desc := "()B", sig := { parameters := [], returnType := some .byte }, accessFlags := 0, code := some k10c5 }
def k10c6 : Code := { maxStack := 1, maxLocals := 1, code := jdk_42_method_154_code, exceptionTable := #[], attributes := #[] }
def k10m6 : Method := { name := "isLatin1", desc := "()Z", sig := { parameters := [], returnType := some .boolean }, accessFlags := 0, code := some k10c6 }
def k10c7 : Code := { maxStack := 3, maxLocals := 2, code := jdk_42_method_155_code, exceptionTable := #[], attributes := #[] }
def k10m7 : Method := { name := "checkIndex", desc := "(II)V", sig := { parameters := [.int, .int], returnType := none }, accessFlags := 8, code := some k10c7 }
/-- java/lang/String -/
def k10 : Class := { plain "java/lang/String" (some 0) with
  accessFlags := 49
  interfaces := #[4, 3, 8, 2, 9]
  cf := some (fileOf pool10 10 #[.nestMembers #[1103]] #[{ accessFlags := 1, nameIndex := 5, descriptorIndex := 6, attributes := #[] }, { accessFlags := 1, nameIndex := 507, descriptorIndex := 334, attributes := #[] }, { accessFlags := 1, nameIndex := 497, descriptorIndex := 427, attributes := #[] }, { accessFlags := 9, nameIndex := 782, descriptorIndex := 783, attributes := #[] }, { accessFlags := 0, nameIndex := 5, descriptorIndex := 211, attributes := #[] }, { accessFlags := 0, nameIndex := 17, descriptorIndex := 337, attributes := #[] }, { accessFlags := 0, nameIndex := 494, descriptorIndex := 142, attributes := #[] }, { accessFlags := 8, nameIndex := 501, descriptorIndex := 391, attributes := #[] }] 49 2 #[1106, 1108, 575, 1110, 1112] #[{ accessFlags := 18, nameIndex := 13, descriptorIndex := 14, attributes := #[] }, { accessFlags := 18, nameIndex := 17, descriptorIndex := 18, attributes := #[] }, { accessFlags := 2, nameIndex := 21, descriptorIndex := 22, attributes := #[] }, { accessFlags := 2, nameIndex := 25, descriptorIndex := 26, attributes := #[] }, { accessFlags := 26, nameIndex := 1116, descriptorIndex := 1117, attributes := #[] }, { accessFlags := 24, nameIndex := 40, descriptorIndex := 26, attributes := #[] }, { accessFlags := 26, nameIndex := 1101, descriptorIndex := 1102, attributes := #[] }, { accessFlags := 26, nameIndex := 1121, descriptorIndex := 1122, attributes := #[] }, { accessFlags := 25, nameIndex := 599, descriptorIndex := 600, attributes := #[] }, { accessFlags := 24, nameIndex := 1125, descriptorIndex := 18, attributes := #[] }, { accessFlags := 24, nameIndex := 1127, descriptorIndex := 18, attributes := #[] }])
  fields := #[{ name := "value", type := (.array .byte), accessFlags := 18, slot := 0, constantValue := 0 }, { name := "coder", type := .byte, accessFlags := 18, slot := 1, constantValue := 0 }, { name := "hash", type := .int, accessFlags := 2, slot := 2, constantValue := 0 }, { name := "hashIsZero", type := .boolean, accessFlags := 2, slot := 3, constantValue := 0 }, { name := "serialVersionUID", type := .long, accessFlags := 26, slot := 0, constantValue := 0 }, { name := "COMPACT_STRINGS", type := .boolean, accessFlags := 24, slot := 1, constantValue := 0 }, { name := "serialPersistentFields", type := (.array (.object "java/io/ObjectStreamField")), accessFlags := 26, slot := 2, constantValue := 0 }, { name := "REPL", type := .char, accessFlags := 26, slot := 3, constantValue := 0 }, { name := "CASE_INSENSITIVE_ORDER", type := (.object "java/util/Comparator"), accessFlags := 25, slot := 4, constantValue := 0 }, { name := "LATIN1", type := .byte, accessFlags := 24, slot := 5, constantValue := 0 }, { name := "UTF16", type := .byte, accessFlags := 24, slot := 6, constantValue := 0 }]
  methods := #[k10m0, k10m1, k10m2, k10m3, k10m4, k10m5, k10m6, k10m7]
  instanceTypes := #[(.array .byte), .byte, .int, .boolean]
  staticTypes := #[.long, .boolean, (.array (.object "java/io/ObjectStreamField")), .char, (.object "java/util/Comparator"), .byte, .byte]
  resolved := Array.replicate 1451 none
  statics := some 1 }

def pool11 : Array CpInfo := pool [(1, .class_ 2), (0, u "java/lang/String"), (1, .class_ 6), (1, u "java/lang/Object"), (0, u "<init>"), (0, u "()V"), (0, .methodref 1 10), (0, .nameAndType 11 12), (0, u "checkIndex"), (0, u "(II)V"), (1, .class_ 16), (1, u "java/lang/StringLatin1"), (36, u "([BI)C"), (36, u "canEncode"), (14, u "(C)Z"), (15, u "$assertionsDisabled"), (0, u "Z"), (98, .class_ 223), (1, u "java/lang/StringLatin1$LinesSpliterator"), (28, u "charAt"), (127, u "toBytes"), (1, u "(C)[B"), (7, .class_ 391), (0, u "java/lang/StringLatin1$CharsSpliterator")] 3

def k11m0 : Method := { name := "<init>", desc := "()V", sig := { parameters := [], returnType := none }, accessFlags := 0, code := none }
def k11c1 : Code := { maxStack := 2, maxLocals := 2, code := jdk_43_method_2_code, exceptionTable := #[], attributes := #[] }
def k11m1 : Method := { name := "charAt", desc := "([BI)C", sig := { parameters := [(.array .byte), .int], returnType := some .char }, accessFlags := 9, code := some k11c1 }
def k11c2 : Code := { maxStack := 2, maxLocals := 1, code := jdk_43_method_3_code, exceptionTable := #[], attributes := #[] }
def k11m2 : Method := { name := "canEncode", desc := "(C)Z", sig := { parameters := [.char], returnType := some .boolean }, accessFlags := 9, code := some k11c2 }
def k11c3 : Code := { maxStack := 4, maxLocals := 1, code := jdk_43_method_46_code, exceptionTable := #[], attributes := #[] }
def k11m3 : Method := { name := "toBytes", desc := "(C)[B", sig := { parameters := [.char], returnType := some (.array .byte) }, accessFlags := 9, code := some k11c3 }
/-- java/lang/StringLatin1 -/
def k11 : Class := { plain "java/lang/StringLatin1" (some 0) with
  accessFlags := 48
  interfaces := #[]
  cf := some (fileOf pool11 14 #[.nestMembers #[390, 221]] #[{ accessFlags := 0, nameIndex := 7, descriptorIndex := 8, attributes := #[] }, { accessFlags := 9, nameIndex := 252, descriptorIndex := 53, attributes := #[] }, { accessFlags := 9, nameIndex := 90, descriptorIndex := 105, attributes := #[] }, { accessFlags := 9, nameIndex := 380, descriptorIndex := 382, attributes := #[] }] 48 4 #[] #[{ accessFlags := 4120, nameIndex := 121, descriptorIndex := 122, attributes := #[] }])
  fields := #[{ name := "$assertionsDisabled", type := .boolean, accessFlags := 4120, slot := 0, constantValue := 0 }]
  methods := #[k11m0, k11m1, k11m2, k11m3]
  instanceTypes := #[]
  staticTypes := #[.boolean]
  resolved := Array.replicate 395 none
  statics := none }

def pool12 : Array CpInfo := pool [(2, .class_ 4), (1, u "java/lang/Object"), (0, u "<init>"), (0, u "()V"), (17, .class_ 26), (1, u "jdk/internal/util/Preconditions"), (6, u "checkIndex"), (21, .class_ 56), (0, u "jdk/internal/util/Preconditions$4"), (57, .class_ 115), (0, u "jdk/internal/util/Preconditions$1"), (7, u "SIOOBE_FORMATTER"), (0, u "Ljava/util/function/BiFunction;"), (0, .class_ 126), (0, u "jdk/internal/util/Preconditions$2"), (3, u "AIOOBE_FORMATTER"), (0, .class_ 132), (0, u "jdk/internal/util/Preconditions$3"), (3, u "IOOBE_FORMATTER"), (41, u "(IILjava/util/function/BiFunction;)I")] 15

def k12m0 : Method := { name := "<init>", desc := "()V", sig := { parameters := [], returnType := none }, accessFlags := 1, code := none }
def k12c1 : Code := { maxStack := 3, maxLocals := 3, code := jdk_41_method_11_code, exceptionTable := #[], attributes := #[] }
def k12m1 : Method := { name := "checkIndex", desc := "(IILjava/util/function/BiFunction;)I", sig := { parameters := [.int, .int, (.object "java/util/function/BiFunction")], returnType := some .int }, accessFlags := 9, code := some k12c1 }
/-- jdk/internal/util/Preconditions -/
def k12 : Class := { plain "jdk/internal/util/Preconditions" (some 0) with
  accessFlags := 33
  interfaces := #[]
  cf := some (fileOf pool12 24 #[.nestMembers #[55, 131, 125, 114]] #[{ accessFlags := 1, nameIndex := 5, descriptorIndex := 6, attributes := #[] }, { accessFlags := 9, nameIndex := 33, descriptorIndex := 178, attributes := #[] }] 33 2 #[] #[{ accessFlags := 25, nameIndex := 123, descriptorIndex := 124, attributes := #[] }, { accessFlags := 25, nameIndex := 130, descriptorIndex := 124, attributes := #[] }, { accessFlags := 25, nameIndex := 136, descriptorIndex := 124, attributes := #[] }])
  fields := #[{ name := "SIOOBE_FORMATTER", type := (.object "java/util/function/BiFunction"), accessFlags := 25, slot := 0, constantValue := 0 }, { name := "AIOOBE_FORMATTER", type := (.object "java/util/function/BiFunction"), accessFlags := 25, slot := 1, constantValue := 0 }, { name := "IOOBE_FORMATTER", type := (.object "java/util/function/BiFunction"), accessFlags := 25, slot := 2, constantValue := 0 }]
  methods := #[k12m0, k12m1]
  instanceTypes := #[]
  staticTypes := #[(.object "java/util/function/BiFunction"), (.object "java/util/function/BiFunction"), (.object "java/util/function/BiFunction")]
  resolved := Array.replicate 194 none
  statics := some 2 }

def pool13 : Array CpInfo := pool [(9, u "<init>"), (6, .class_ 18), (1, u "java/lang/Object"), (0, u "()V"), (1, .class_ 23), (1, u "jdk/internal/util/ArraysSupport"), (0, u "LOG2_ARRAY_LONG_INDEX_SCALE"), (0, u "I"), (2, u "U"), (0, u "Ljdk/internal/misc/Unsafe;"), (8, u "BIG_ENDIAN"), (0, u "Z"), (8, u "LOG2_BYTE_BIT_SIZE"), (4, u "LOG2_ARRAY_INT_INDEX_SCALE"), (54, u "JLA"), (0, u "Ljdk/internal/access/JavaLangAccess;"), (11, u "LOG2_ARRAY_BOOLEAN_INDEX_SCALE"), (9, u "LOG2_ARRAY_BYTE_INDEX_SCALE"), (5, u "LOG2_ARRAY_CHAR_INDEX_SCALE"), (5, u "LOG2_ARRAY_SHORT_INDEX_SCALE"), (18, u "LOG2_ARRAY_FLOAT_INDEX_SCALE"), (24, u "LOG2_ARRAY_DOUBLE_INDEX_SCALE"), (89, u "T_BOOLEAN"), (2, u "T_CHAR"), (1, u "T_FLOAT"), (1, u "T_DOUBLE"), (1, u "T_BYTE"), (1, u "T_SHORT"), (1, u "T_INT"), (1, u "T_LONG"), (1, u "SOFT_MAX_ARRAY_LENGTH")] 83

def k13m0 : Method := { name := "<init>", desc := "()V", sig := { parameters := [], returnType := none }, accessFlags := 2, code := none }
/-- jdk/internal/util/ArraysSupport -/
def k13 : Class := { plain "jdk/internal/util/ArraysSupport" (some 0) with
  accessFlags := 33
  interfaces := #[]
  cf := some (fileOf pool13 21 #[] #[{ accessFlags := 2, nameIndex := 9, descriptorIndex := 19, attributes := #[] }] 33 16 #[] #[{ accessFlags := 24, nameIndex := 28, descriptorIndex := 29, attributes := #[] }, { accessFlags := 26, nameIndex := 38, descriptorIndex := 39, attributes := #[] }, { accessFlags := 25, nameIndex := 121, descriptorIndex := 25, attributes := #[] }, { accessFlags := 25, nameIndex := 131, descriptorIndex := 25, attributes := #[] }, { accessFlags := 25, nameIndex := 137, descriptorIndex := 25, attributes := #[] }, { accessFlags := 25, nameIndex := 143, descriptorIndex := 25, attributes := #[] }, { accessFlags := 25, nameIndex := 53, descriptorIndex := 25, attributes := #[] }, { accessFlags := 25, nameIndex := 24, descriptorIndex := 25, attributes := #[] }, { accessFlags := 25, nameIndex := 162, descriptorIndex := 25, attributes := #[] }, { accessFlags := 25, nameIndex := 187, descriptorIndex := 25, attributes := #[] }, { accessFlags := 26, nameIndex := 48, descriptorIndex := 25, attributes := #[] }, { accessFlags := 25, nameIndex := 277, descriptorIndex := 25, attributes := #[] }, { accessFlags := 25, nameIndex := 280, descriptorIndex := 25, attributes := #[] }, { accessFlags := 25, nameIndex := 282, descriptorIndex := 25, attributes := #[] }, { accessFlags := 25, nameIndex := 284, descriptorIndex := 25, attributes := #[] }, { accessFlags := 25, nameIndex := 286, descriptorIndex := 25, attributes := #[] }, { accessFlags := 25, nameIndex := 288, descriptorIndex := 25, attributes := #[] }, { accessFlags := 25, nameIndex := 290, descriptorIndex := 25, attributes := #[] }, { accessFlags := 25, nameIndex := 292, descriptorIndex := 25, attributes := #[] }, { accessFlags := 26, nameIndex := 108, descriptorIndex := 109, attributes := #[] }, { accessFlags := 25, nameIndex := 294, descriptorIndex := 25, attributes := #[] }])
  fields := #[{ name := "U", type := (.object "jdk/internal/misc/Unsafe"), accessFlags := 24, slot := 0, constantValue := 0 }, { name := "BIG_ENDIAN", type := .boolean, accessFlags := 26, slot := 1, constantValue := 0 }, { name := "LOG2_ARRAY_BOOLEAN_INDEX_SCALE", type := .int, accessFlags := 25, slot := 2, constantValue := 0 }, { name := "LOG2_ARRAY_BYTE_INDEX_SCALE", type := .int, accessFlags := 25, slot := 3, constantValue := 0 }, { name := "LOG2_ARRAY_CHAR_INDEX_SCALE", type := .int, accessFlags := 25, slot := 4, constantValue := 0 }, { name := "LOG2_ARRAY_SHORT_INDEX_SCALE", type := .int, accessFlags := 25, slot := 5, constantValue := 0 }, { name := "LOG2_ARRAY_INT_INDEX_SCALE", type := .int, accessFlags := 25, slot := 6, constantValue := 0 }, { name := "LOG2_ARRAY_LONG_INDEX_SCALE", type := .int, accessFlags := 25, slot := 7, constantValue := 0 }, { name := "LOG2_ARRAY_FLOAT_INDEX_SCALE", type := .int, accessFlags := 25, slot := 8, constantValue := 0 }, { name := "LOG2_ARRAY_DOUBLE_INDEX_SCALE", type := .int, accessFlags := 25, slot := 9, constantValue := 0 }, { name := "LOG2_BYTE_BIT_SIZE", type := .int, accessFlags := 26, slot := 10, constantValue := 0 }, { name := "T_BOOLEAN", type := .int, accessFlags := 25, slot := 11, constantValue := 0 }, { name := "T_CHAR", type := .int, accessFlags := 25, slot := 12, constantValue := 0 }, { name := "T_FLOAT", type := .int, accessFlags := 25, slot := 13, constantValue := 0 }, { name := "T_DOUBLE", type := .int, accessFlags := 25, slot := 14, constantValue := 0 }, { name := "T_BYTE", type := .int, accessFlags := 25, slot := 15, constantValue := 0 }, { name := "T_SHORT", type := .int, accessFlags := 25, slot := 16, constantValue := 0 }, { name := "T_INT", type := .int, accessFlags := 25, slot := 17, constantValue := 0 }, { name := "T_LONG", type := .int, accessFlags := 25, slot := 18, constantValue := 0 }, { name := "JLA", type := (.object "jdk/internal/access/JavaLangAccess"), accessFlags := 26, slot := 19, constantValue := 0 }, { name := "SOFT_MAX_ARRAY_LENGTH", type := .int, accessFlags := 25, slot := 20, constantValue := 0 }]
  methods := #[k13m0]
  instanceTypes := #[]
  staticTypes := #[(.object "jdk/internal/misc/Unsafe"), .boolean, .int, .int, .int, .int, .int, .int, .int, .int, .int, .int, .int, .int, .int, .int, .int, .int, .int, (.object "jdk/internal/access/JavaLangAccess"), .int]
  resolved := Array.replicate 378 none
  statics := none }

def pool14 : Array CpInfo := pool [(1, u "java/lang/Cloneable"), (0, .class_ 1), (0, u "java/lang/Object"), (0, .class_ 3)] 3

/-- java/lang/Cloneable -/
def k14 : Class := { plain "java/lang/Cloneable" (some 0) with
  accessFlags := 1537
  interfaces := #[]
  cf := some (fileOf pool14 2 #[] #[] 1537 4 #[] #[])
  fields := #[]
  methods := #[]
  instanceTypes := #[]
  staticTypes := #[]
  resolved := Array.replicate 8 none
  statics := none }

/-- the primitive byte -/
def k15 : Class := { plain "byte" none with kind := .primitive 'B', accessFlags := 0x411 }
/-- [B -/
def k16 : Class := { plain "[B" (some 0) with kind := .array 15 .byte, interfaces := #[14, 4], accessFlags := 1041 }

/-- the primitive int -/
def k17 : Class := { plain "int" none with kind := .primitive 'I', accessFlags := 0x411 }
/-- [I -/
def k18 : Class := { plain "[I" (some 0) with kind := .array 17 .int, interfaces := #[14, 4], accessFlags := 1041 }

def heap : Heap := #[{ cls := 6, slots := #[.ref 4, .ref 6, .ref 8, .int 0, .null], vm := .statics 6 },
  { cls := 10, slots := #[.long 0, .int 1, .null, .int 0, .null, .int 0, .int 0], vm := .statics 10 },
  { cls := 12, slots := #[.null, .null, .null], vm := .statics 12 },
  { cls := 18, slots := #[.int (-1), .int (-1), .int (-1), .int (-1), .int (-1), .int (-1), .int (-1), .int (-1), .int (-1), .int (-1), .int (-1), .int (-1), .int (-1), .int (-1), .int (-1), .int (-1), .int (-1), .int (-1), .int (-1), .int (-1), .int (-1), .int (-1), .int (-1), .int (-1), .int (-1), .int (-1), .int (-1), .int (-1), .int (-1), .int (-1), .int (-1), .int (-1), .int (-1), .int (-1), .int (-1), .int (-1), .int (-1), .int (-1), .int (-1), .int (-1), .int (-1), .int (-1), .int (-1), .int (-1), .int (-1), .int (-1), .int (-1), .int (-1), .int (0), .int (1), .int (2), .int (3), .int (4), .int (5), .int (6), .int (7), .int (8), .int (9), .int (-1), .int (-1), .int (-1), .int (-1), .int (-1), .int (-1), .int (-1), .int (-1), .int (-1), .int (-1), .int (-1), .int (-1), .int (-1), .int (-1), .int (-1), .int (-1), .int (-1), .int (-1), .int (-1), .int (-1), .int (-1), .int (-1), .int (-1), .int (-1), .int (-1), .int (-1), .int (-1), .int (-1), .int (-1), .int (-1), .int (-1), .int (-1), .int (-1), .int (-1), .int (-1), .int (-1), .int (-1), .int (-1), .int (-1), .int (10), .int (11), .int (12), .int (13), .int (14), .int (15), .int (-1), .int (-1), .int (-1), .int (-1), .int (-1), .int (-1), .int (-1), .int (-1), .int (-1), .int (-1), .int (-1), .int (-1), .int (-1), .int (-1), .int (-1), .int (-1), .int (-1), .int (-1), .int (-1), .int (-1), .int (-1), .int (-1), .int (-1), .int (-1), .int (-1)], vm := .none },
  { cls := 6, slots := #[.null, .int 0, .int 0, .null, .ref 3, .int 4], vm := .none },
  { cls := 18, slots := #[.int (-1), .int (-1), .int (-1), .int (-1), .int (-1), .int (-1), .int (-1), .int (-1), .int (-1), .int (-1), .int (-1), .int (-1), .int (-1), .int (-1), .int (-1), .int (-1), .int (-1), .int (-1), .int (-1), .int (-1), .int (-1), .int (-1), .int (-1), .int (-1), .int (-1), .int (-1), .int (-1), .int (-1), .int (-1), .int (-1), .int (-1), .int (-1), .int (-1), .int (-1), .int (-1), .int (-1), .int (-1), .int (-1), .int (-1), .int (-1), .int (-1), .int (-1), .int (-1), .int (-1), .int (-1), .int (-1), .int (-1), .int (-1), .int (-1), .int (-1), .int (26), .int (27), .int (28), .int (29), .int (30), .int (31), .int (-1), .int (-1), .int (-1), .int (-1), .int (-1), .int (-1), .int (-1), .int (-1), .int (-1), .int (-1), .int (-1), .int (-1), .int (-1), .int (-1), .int (-1), .int (-1), .int (-1), .int (-1), .int (-1), .int (-1), .int (-1), .int (-1), .int (-1), .int (-1), .int (-1), .int (-1), .int (-1), .int (-1), .int (-1), .int (-1), .int (-1), .int (-1), .int (-1), .int (-1), .int (-1), .int (-1), .int (-1), .int (-1), .int (-1), .int (-1), .int (-1), .int (0), .int (1), .int (2), .int (3), .int (4), .int (5), .int (6), .int (7), .int (8), .int (9), .int (10), .int (11), .int (12), .int (13), .int (14), .int (15), .int (16), .int (17), .int (18), .int (19), .int (20), .int (21), .int (22), .int (23), .int (24), .int (25), .int (-1), .int (-1), .int (-1), .int (-1), .int (-1)], vm := .none },
  { cls := 6, slots := #[.null, .int 0, .int 0, .null, .ref 5, .int 5], vm := .none },
  { cls := 18, slots := #[.int (-1), .int (-1), .int (-1), .int (-1), .int (-1), .int (-1), .int (-1), .int (-1), .int (-1), .int (-1), .int (-1), .int (-1), .int (-1), .int (-1), .int (-1), .int (-1), .int (-1), .int (-1), .int (-1), .int (-1), .int (-1), .int (-1), .int (-1), .int (-1), .int (-1), .int (-1), .int (-1), .int (-1), .int (-1), .int (-1), .int (-1), .int (-1), .int (-1), .int (-1), .int (-1), .int (-1), .int (-1), .int (-1), .int (-1), .int (-1), .int (-1), .int (-1), .int (-1), .int (-1), .int (-1), .int (62), .int (-1), .int (-1), .int (52), .int (53), .int (54), .int (55), .int (56), .int (57), .int (58), .int (59), .int (60), .int (61), .int (-1), .int (-1), .int (-1), .int (-1), .int (-1), .int (-1), .int (-1), .int (0), .int (1), .int (2), .int (3), .int (4), .int (5), .int (6), .int (7), .int (8), .int (9), .int (10), .int (11), .int (12), .int (13), .int (14), .int (15), .int (16), .int (17), .int (18), .int (19), .int (20), .int (21), .int (22), .int (23), .int (24), .int (25), .int (-1), .int (-1), .int (-1), .int (-1), .int (63), .int (-1), .int (26), .int (27), .int (28), .int (29), .int (30), .int (31), .int (32), .int (33), .int (34), .int (35), .int (36), .int (37), .int (38), .int (39), .int (40), .int (41), .int (42), .int (43), .int (44), .int (45), .int (46), .int (47), .int (48), .int (49), .int (50), .int (51), .int (-1), .int (-1), .int (-1), .int (-1), .int (-1)], vm := .none },
  { cls := 6, slots := #[.null, .int 0, .int 0, .null, .ref 7, .int 6], vm := .none }]
def classes : Array Class := #[k0, k1, k2, k3, k4, k5, k6, k7, k8, k9, k10, k11, k12, k13, k14, k15, k16, k17, k18]
def interned : List (Array UInt16 × Addr) := []
def slotsUsed : Nat := 417
def theMethod : MethodId := ⟨1, 1⟩
def args0 : Array Value := #[.int 5, .int 5, .long 5, .int 5]
def aboutOver (below : List Frame) : State where
  vm := { classes := classes, interned := interned.toArray }
  heap := heap
  slotsUsed := slotsUsed
  threads := #[{ frames := .invoking theMethod args0 :: below }]
def below0 : List Frame := [.native { method := ⟨0, 0⟩, args := #[] }]
def about1 : State := aboutOver below0
def p0 : Program := .bare "" "" ""
def e0 : Env := launch0.env 0 0 0
theorem w_frames : about1.frames = Frame.invoking theMethod args0 :: below0 := rfl
set_option maxRecDepth 65536 in
theorem w_args : argsFit about1.vm theMethod args0 = true := by decide +kernel
set_option maxRecDepth 65536 in
theorem w_heap : heapFits about1 = true := by decide +kernel
set_option maxRecDepth 65536 in
theorem w_runnable : about1.curStatus? = some .runnable := by decide +kernel
set_option maxRecDepth 65536 in
theorem w_alone : about1.alone = true := by decide +kernel
set_option maxRecDepth 65536 in
theorem w_named : about1.methodNamed? x = some theMethod := by decide +kernel
set_option maxRecDepth 65536 in
theorem w_hears : about1.hears theMethod below0 = true := by decide +kernel
set_option maxRecDepth 65536 in
theorem w_ripe : about1.ripe theMethod args0 below0 = true := by decide +kernel
theorem w_running : about1.status = .running := rfl
set_option maxRecDepth 65536 in
theorem w_room : about1.hasRoom e0.platform room_1 = true :=
  launch0.hasRoom_least _ room_1 (by decide +kernel) (by decide +kernel) (by decide +kernel) (by decide +kernel) (by decide +kernel) (by decide +kernel)
theorem allAtoms_all (ts : List Jvm.Cond) (a : Array Jvm.Value) (st : Jvm.State) : (allAtoms ts).before a st = ts.all (fun c => c.before a st) := by
  induction ts with
  | nil => rfl
  | cons c t ih =>
    show (Jvm.Cond.and c (allAtoms t)).before a st = _
    rw [Jvm.Cond.before_and, ih, List.all_cons]
def words1 : List Jvm.Cond := Jvm.Cond.code x code maxLocals ret :: tables_1
/-- a 'code' word, met by the world's own term for the bytes: nothing is compared byte by byte -/
theorem code_word {y : MethodName} {bytes : ByteArray} {mx : Nat} {rt : Option FieldType} {a : Array Value} {s : State} {m : MethodId} {meth : Method} {c : Code} (h1 : s.methodNamed? y = some m) (h2 : s.vm.method? m = some meth) (h3 : meth.code = some c) (h4 : c.code = bytes)
    (h5 : (c.maxLocals == mx && c.exceptionTable.isEmpty && decide (c.maxStack ≤ mostOperands) && decide (meth.sig.returnType = rt) && !meth.locks && decide (parseMethodDescriptor y.desc = some meth.sig)) = true) : (Jvm.Cond.code y bytes mx rt).before a s = true := by
  simp only [Bool.and_eq_true, beq_iff_eq, Bool.not_eq_true', decide_eq_true_eq] at h5
  obtain ⟨⟨⟨⟨⟨g1, g2⟩, g3⟩, g4⟩, g5⟩, g6⟩ := h5
  simp [Cond.before, Cond.holds, Cond.value, h1, h2, h3, h4, g1, g2, g3, g4, g5, g6]
def isCode : Jvm.Cond → Bool
  | .code _ _ _ _ => true
  | _ => false
theorem all_split {L : List Jvm.Cond} {P : Jvm.Cond → Bool} (h1 : L.all (fun c => isCode c || P c) = true) (h2 : ∀ c ∈ L.filter isCode, P c = true) : L.all P = true := by
  refine List.all_eq_true.mpr fun c hc => ?_
  have h := List.all_eq_true.mp h1 c hc
  rcases Bool.eq_false_or_eq_true (isCode c) with hi | hi
  · exact h2 c (List.mem_filter.mpr ⟨hc, hi⟩)
  · simpa [hi] using h
set_option maxRecDepth 65536 in
theorem w_c0 : (Jvm.Cond.code x code maxLocals ret).before args0 about1 = true := code_word (m := ⟨1, 1⟩) (meth := k1m1) (c := k1c1) (by decide +kernel) rfl rfl rfl (by decide +kernel)
set_option maxRecDepth 65536 in
theorem w_c1 : (Jvm.Cond.code ({ cls := "com/example/plumbline/plumbline/ReadingIsEncodingPinLaw", name := "draw", desc := "(IIJII)C" } : Jvm.MethodName) method_3_code (7 : Nat) (Option.some Jvm.ClassFile.FieldType.char)).before args0 about1 = true := code_word (m := ⟨1, 2⟩) (meth := k1m2) (c := k1c2) (by decide +kernel) rfl rfl rfl (by decide +kernel)
set_option maxRecDepth 65536 in
theorem w_c2 : (Jvm.Cond.code ({ cls := "com/example/plumbline/plumbline/BaseEncoding$Reading", name := "<init>", desc := "(Lcom/example/plumbline/plumbline/BaseEncoding;[B)V" } : Jvm.MethodName) prog_5_method_1_code (3 : Nat) (Option.none : Option Jvm.ClassFile.FieldType)).before args0 about1 = true := code_word (m := ⟨7, 0⟩) (meth := k7m0) (c := k7c0) (by decide +kernel) rfl rfl rfl (by decide +kernel)
set_option maxRecDepth 65536 in
theorem w_c3 : (Jvm.Cond.code ({ cls := "java/lang/Object", name := "<init>", desc := "()V" } : Jvm.MethodName) object_method_1_code (1 : Nat) (Option.none : Option Jvm.ClassFile.FieldType)).before args0 about1 = true := code_word (m := ⟨0, 0⟩) (meth := k0m0) (c := k0c0) (by decide +kernel) rfl rfl rfl (by decide +kernel)
set_option maxRecDepth 65536 in
theorem w_c4 : (Jvm.Cond.code ({ cls := "java/lang/String", name := "valueOf", desc := "(C)Ljava/lang/String;" } : Jvm.MethodName) jdk_42_method_139_code (1 : Nat) (Option.some (Jvm.ClassFile.FieldType.object "java/lang/String"))).before args0 about1 = true := code_word (m := ⟨10, 3⟩) (meth := k10m3) (c := k10c3) (by decide +kernel) rfl rfl rfl (by decide +kernel)
set_option maxRecDepth 65536 in
theorem w_c5 : (Jvm.Cond.code ({ cls := "java/lang/StringLatin1", name := "canEncode", desc := "(C)Z" } : Jvm.MethodName) jdk_43_method_3_code (1 : Nat) (Option.some Jvm.ClassFile.FieldType.boolean)).before args0 about1 = true := code_word (m := ⟨11, 2⟩) (meth := k11m2) (c := k11c2) (by decide +kernel) rfl rfl rfl (by decide +kernel)
set_option maxRecDepth 65536 in
theorem w_c6 : (Jvm.Cond.code ({ cls := "java/lang/StringLatin1", name := "toBytes", desc := "(C)[B" } : Jvm.MethodName) jdk_43_method_46_code (1 : Nat) (Option.some (Jvm.ClassFile.FieldType.array Jvm.ClassFile.FieldType.byte))).before args0 about1 = true := code_word (m := ⟨11, 3⟩) (meth := k11m3) (c := k11c3) (by decide +kernel) rfl rfl rfl (by decide +kernel)
set_option maxRecDepth 65536 in
theorem w_c7 : (Jvm.Cond.code ({ cls := "java/lang/String", name := "<init>", desc := "([BB)V" } : Jvm.MethodName) jdk_42_method_151_code (3 : Nat) (Option.none : Option Jvm.ClassFile.FieldType)).before args0 about1 = true := code_word (m := ⟨10, 4⟩) (meth := k10m4) (c := k10c4) (by decide +kernel) rfl rfl rfl (by decide +kernel)
set_option maxRecDepth 65536 in
theorem w_c8 : (Jvm.Cond.code ({ cls := "com/example/plumbline/plumbline/BaseEncoding$Reading", name := "append", desc := "(Ljava/lang/CharSequence;)V" } : Jvm.MethodName) prog_5_method_2_code (5 : Nat) (Option.none : Option Jvm.ClassFile.FieldType)).before args0 about1 = true := code_word (m := ⟨7, 1⟩) (meth := k7m1) (c := k7c1) (by decide +kernel) rfl rfl rfl (by decide +kernel)
set_option maxRecDepth 65536 in
theorem w_c9 : (Jvm.Cond.code ({ cls := "java/lang/String", name := "length", desc := "()I" } : Jvm.MethodName) jdk_42_method_54_code (1 : Nat) (Option.some Jvm.ClassFile.FieldType.int)).before args0 about1 = true := code_word (m := ⟨10, 1⟩) (meth := k10m1) (c := k10c1) (by decide +kernel) rfl rfl rfl (by decide +kernel)
set_option maxRecDepth 65536 in
theorem w_c10 : (Jvm.Cond.code ({ cls := "java/lang/String", name := "coder", desc := "()B" } : Jvm.MethodName) jdk_42_method_152_code (1 : Nat) (Option.some Jvm.ClassFile.FieldType.byte)).before args0 about1 = true := code_word (m := ⟨10, 5⟩) (meth := k10m5) (c := k10c5) (by decide +kernel) rfl rfl rfl (by decide +kernel)
set_option maxRecDepth 65536 in
theorem w_c11 : (Jvm.Cond.code ({ cls := "java/lang/String", name := "charAt", desc := "(I)C" } : Jvm.MethodName) jdk_42_method_56_code (2 : Nat) (Option.some Jvm.ClassFile.FieldType.char)).before args0 about1 = true := code_word (m := ⟨10, 2⟩) (meth := k10m2) (c := k10c2) (by decide +kernel) rfl rfl rfl (by decide +kernel)
set_option maxRecDepth 65536 in
theorem w_c12 : (Jvm.Cond.code ({ cls := "java/lang/String", name := "isLatin1", desc := "()Z" } : Jvm.MethodName) jdk_42_method_154_code (1 : Nat) (Option.some Jvm.ClassFile.FieldType.boolean)).before args0 about1 = true := code_word (m := ⟨10, 6⟩) (meth := k10m6) (c := k10c6) (by decide +kernel) rfl rfl rfl (by decide +kernel)
set_option maxRecDepth 65536 in
theorem w_c13 : (Jvm.Cond.code ({ cls := "java/lang/StringLatin1", name := "charAt", desc := "([BI)C" } : Jvm.MethodName) jdk_43_method_2_code (2 : Nat) (Option.some Jvm.ClassFile.FieldType.char)).before args0 about1 = true := code_word (m := ⟨11, 1⟩) (meth := k11m1) (c := k11c1) (by decide +kernel) rfl rfl rfl (by decide +kernel)
set_option maxRecDepth 65536 in
theorem w_c14 : (Jvm.Cond.code ({ cls := "java/lang/String", name := "checkIndex", desc := "(II)V" } : Jvm.MethodName) jdk_42_method_155_code (2 : Nat) (Option.none : Option Jvm.ClassFile.FieldType)).before args0 about1 = true := code_word (m := ⟨10, 7⟩) (meth := k10m7) (c := k10c7) (by decide +kernel) rfl rfl rfl (by decide +kernel)
set_option maxRecDepth 65536 in
theorem w_c15 : (Jvm.Cond.code ({ cls := "jdk/internal/util/Preconditions", name := "checkIndex", desc := "(IILjava/util/function/BiFunction;)I" } : Jvm.MethodName) jdk_41_method_11_code (3 : Nat) (Option.some Jvm.ClassFile.FieldType.int)).before args0 about1 = true := code_word (m := ⟨12, 1⟩) (meth := k12m1) (c := k12c1) (by decide +kernel) rfl rfl rfl (by decide +kernel)
set_option maxRecDepth 65536 in
theorem w_c16 : (Jvm.Cond.code ({ cls := "com/example/plumbline/plumbline/BaseEncoding$Reading", name := "isEncoding", desc := "()Z" } : Jvm.MethodName) prog_5_method_4_code (1 : Nat) (Option.some Jvm.ClassFile.FieldType.boolean)).before args0 about1 = true := code_word (m := ⟨7, 3⟩) (meth := k7m3) (c := k7c3) (by decide +kernel) rfl rfl rfl (by decide +kernel)
set_option maxRecDepth 65536 in
theorem w_c17 : (Jvm.Cond.code ({ cls := "com/example/plumbline/plumbline/ReadingIsEncodingPinLaw", name := "ok", desc := "(ICII)Z" } : Jvm.MethodName) method_4_code (4 : Nat) (Option.some Jvm.ClassFile.FieldType.boolean)).before args0 about1 = true := code_word (m := ⟨1, 3⟩) (meth := k1m3) (c := k1c3) (by decide +kernel) rfl rfl rfl (by decide +kernel)
set_option maxRecDepth 65536 in
theorem w_c18 : (Jvm.Cond.code ({ cls := "com/example/plumbline/plumbline/ReadingIsEncodingPinLaw", name := "valOf", desc := "(IC)I" } : Jvm.MethodName) method_6_code (2 : Nat) (Option.some Jvm.ClassFile.FieldType.int)).before args0 about1 = true := code_word (m := ⟨1, 5⟩) (meth := k1m5) (c := k1c5) (by decide +kernel) rfl rfl rfl (by decide +kernel)
set_option maxRecDepth 65536 in
theorem w_c19 : (Jvm.Cond.code ({ cls := "com/example/plumbline/plumbline/ReadingIsEncodingPinLaw", name := "charOf", desc := "(II)C" } : Jvm.MethodName) method_5_code (2 : Nat) (Option.some Jvm.ClassFile.FieldType.char)).before args0 about1 = true := code_word (m := ⟨1, 4⟩) (meth := k1m4) (c := k1c4) (by decide +kernel) rfl rfl rfl (by decide +kernel)
set_option maxRecDepth 65536 in
theorem w_c20 : (Jvm.Cond.code ({ cls := "com/example/plumbline/plumbline/BaseEncoding$Reading", name := "take", desc := "(I)V" } : Jvm.MethodName) prog_5_method_3_code (2 : Nat) (Option.none : Option Jvm.ClassFile.FieldType)).before args0 about1 = true := code_word (m := ⟨7, 2⟩) (meth := k7m2) (c := k7c2) (by decide +kernel) rfl rfl rfl (by decide +kernel)
def codes1 : List Jvm.Cond := [Jvm.Cond.code x code maxLocals ret, Jvm.Cond.code ({ cls := "com/example/plumbline/plumbline/ReadingIsEncodingPinLaw", name := "draw", desc := "(IIJII)C" } : Jvm.MethodName) method_3_code (7 : Nat) (Option.some Jvm.ClassFile.FieldType.char), Jvm.Cond.code ({ cls := "com/example/plumbline/plumbline/BaseEncoding$Reading", name := "<init>", desc := "(Lcom/example/plumbline/plumbline/BaseEncoding;[B)V" } : Jvm.MethodName) prog_5_method_1_code (3 : Nat) (Option.none : Option Jvm.ClassFile.FieldType), Jvm.Cond.code ({ cls := "java/lang/Object", name := "<init>", desc := "()V" } : Jvm.MethodName) object_method_1_code (1 : Nat) (Option.none : Option Jvm.ClassFile.FieldType), Jvm.Cond.code ({ cls := "java/lang/String", name := "valueOf", desc := "(C)Ljava/lang/String;" } : Jvm.MethodName) jdk_42_method_139_code (1 : Nat) (Option.some (Jvm.ClassFile.FieldType.object "java/lang/String")), Jvm.Cond.code ({ cls := "java/lang/StringLatin1", name := "canEncode", desc := "(C)Z" } : Jvm.MethodName) jdk_43_method_3_code (1 : Nat) (Option.some Jvm.ClassFile.FieldType.boolean), Jvm.Cond.code ({ cls := "java/lang/StringLatin1", name := "toBytes", desc := "(C)[B" } : Jvm.MethodName) jdk_43_method_46_code (1 : Nat) (Option.some (Jvm.ClassFile.FieldType.array Jvm.ClassFile.FieldType.byte)), Jvm.Cond.code ({ cls := "java/lang/String", name := "<init>", desc := "([BB)V" } : Jvm.MethodName) jdk_42_method_151_code (3 : Nat) (Option.none : Option Jvm.ClassFile.FieldType), Jvm.Cond.code ({ cls := "com/example/plumbline/plumbline/BaseEncoding$Reading", name := "append", desc := "(Ljava/lang/CharSequence;)V" } : Jvm.MethodName) prog_5_method_2_code (5 : Nat) (Option.none : Option Jvm.ClassFile.FieldType), Jvm.Cond.code ({ cls := "java/lang/String", name := "length", desc := "()I" } : Jvm.MethodName) jdk_42_method_54_code (1 : Nat) (Option.some Jvm.ClassFile.FieldType.int), Jvm.Cond.code ({ cls := "java/lang/String", name := "coder", desc := "()B" } : Jvm.MethodName) jdk_42_method_152_code (1 : Nat) (Option.some Jvm.ClassFile.FieldType.byte), Jvm.Cond.code ({ cls := "java/lang/String", name := "charAt", desc := "(I)C" } : Jvm.MethodName) jdk_42_method_56_code (2 : Nat) (Option.some Jvm.ClassFile.FieldType.char), Jvm.Cond.code ({ cls := "java/lang/String", name := "isLatin1", desc := "()Z" } : Jvm.MethodName) jdk_42_method_154_code (1 : Nat) (Option.some Jvm.ClassFile.FieldType.boolean), Jvm.Cond.code ({ cls := "java/lang/StringLatin1", name := "charAt", desc := "([BI)C" } : Jvm.MethodName) jdk_43_method_2_code (2 : Nat) (Option.some Jvm.ClassFile.FieldType.char), Jvm.Cond.code ({ cls := "java/lang/String", name := "checkIndex", desc := "(II)V" } : Jvm.MethodName) jdk_42_method_155_code (2 : Nat) (Option.none : Option Jvm.ClassFile.FieldType), Jvm.Cond.code ({ cls := "jdk/internal/util/Preconditions", name := "checkIndex", desc := "(IILjava/util/function/BiFunction;)I" } : Jvm.MethodName) jdk_41_method_11_code (3 : Nat) (Option.some Jvm.ClassFile.FieldType.int), Jvm.Cond.code ({ cls := "com/example/plumbline/plumbline/BaseEncoding$Reading", name := "isEncoding", desc := "()Z" } : Jvm.MethodName) prog_5_method_4_code (1 : Nat) (Option.some Jvm.ClassFile.FieldType.boolean), Jvm.Cond.code ({ cls := "com/example/plumbline/plumbline/ReadingIsEncodingPinLaw", name := "ok", desc := "(ICII)Z" } : Jvm.MethodName) method_4_code (4 : Nat) (Option.some Jvm.ClassFile.FieldType.boolean), Jvm.Cond.code ({ cls := "com/example/plumbline/plumbline/ReadingIsEncodingPinLaw", name := "valOf", desc := "(IC)I" } : Jvm.MethodName) method_6_code (2 : Nat) (Option.some Jvm.ClassFile.FieldType.int), Jvm.Cond.code ({ cls := "com/example/plumbline/plumbline/ReadingIsEncodingPinLaw", name := "charOf", desc := "(II)C" } : Jvm.MethodName) method_5_code (2 : Nat) (Option.some Jvm.ClassFile.FieldType.char), Jvm.Cond.code ({ cls := "com/example/plumbline/plumbline/BaseEncoding$Reading", name := "take", desc := "(I)V" } : Jvm.MethodName) prog_5_method_3_code (2 : Nat) (Option.none : Option Jvm.ClassFile.FieldType)]
set_option maxRecDepth 65536 in
theorem codes_eq : words1.filter isCode = codes1 := rfl
theorem w_codes : ∀ c ∈ words1.filter isCode, c.before args0 about1 = true := by
  rw [codes_eq]
  intro c hc
  simp only [codes1, List.mem_cons, List.not_mem_nil, or_false] at hc
  rcases hc with rfl | rfl | rfl | rfl | rfl | rfl | rfl | rfl | rfl | rfl | rfl | rfl | rfl | rfl | rfl | rfl | rfl | rfl | rfl | rfl | rfl
  · exact w_c0
  · exact w_c1
  · exact w_c2
  · exact w_c3
  · exact w_c4
  · exact w_c5
  · exact w_c6
  · exact w_c7
  · exact w_c8
  · exact w_c9
  · exact w_c10
  · exact w_c11
  · exact w_c12
  · exact w_c13
  · exact w_c14
  · exact w_c15
  · exact w_c16
  · exact w_c17
  · exact w_c18
  · exact w_c19
  · exact w_c20
set_option maxRecDepth 65536 in
theorem w_t1 : (words1.take 24).all (fun c => isCode c || c.before args0 about1) = true := by decide +kernel
set_option maxRecDepth 65536 in
theorem w_t2 : ((words1.drop 24).take 24).all (fun c => isCode c || c.before args0 about1) = true := by decide +kernel
set_option maxRecDepth 65536 in
theorem w_t3 : (((words1.drop 24).drop 24).take 24).all (fun c => isCode c || c.before args0 about1) = true := by decide +kernel
set_option maxRecDepth 65536 in
theorem w_t4 : ((((words1.drop 24).drop 24).drop 24).take 24).all (fun c => isCode c || c.before args0 about1) = true := by decide +kernel
set_option maxRecDepth 65536 in
theorem w_t5 : (((((words1.drop 24).drop 24).drop 24).drop 24).take 24).all (fun c => isCode c || c.before args0 about1) = true := by decide +kernel
set_option maxRecDepth 65536 in
theorem w_t6 : (((((words1.drop 24).drop 24).drop 24).drop 24).drop 24).all (fun c => isCode c || c.before args0 about1) = true := by decide +kernel
theorem w_tables : (allAtoms (Jvm.Cond.code x code maxLocals ret :: tables_1)).before args0 about1 = true := by
  rw [allAtoms_all]
  show words1.all (fun c => c.before args0 about1) = true
  refine all_split ?_ w_codes
  rw [← List.take_append_drop 24 words1, List.all_append, w_t1, ← List.take_append_drop 24 (words1.drop 24), List.all_append, w_t2, ← List.take_append_drop 24 ((words1.drop 24).drop 24), List.all_append, w_t3, ← List.take_append_drop 24 (((words1.drop 24).drop 24).drop 24), List.all_append, w_t4, ← List.take_append_drop 24 ((((words1.drop 24).drop 24).drop 24).drop 24), List.all_append, w_t5, w_t6]
  rfl
set_option maxRecDepth 65536 in
theorem w_rest : rest_1_c.before args0 about1 = true := by decide +kernel
set_option maxRecDepth 65536 in
theorem w_case : (Jvm.Cond.and given_1 narrow_1).before args0 about1 = true := by decide +kernel
theorem w_applies : (headSpec (Jvm.Cond.code x code maxLocals ret :: tables_1) room_1).applies x e0.platform about1 = true :=
  (Spec.applies_iff w_frames).mpr ⟨w_running, w_runnable, w_alone, w_named, w_hears, w_ripe, w_room, w_tables⟩
theorem atStart : AtStart classFile x code maxLocals ret World_1 tables_1 room_1 Calls_1 rest_1 Pre_1 launch0 p0 e0 about1 theMethod args0 below0 :=
  ⟨lists_1, trivial, launch0.admits_env _ _ _, launch0.least_env, fairChoices_fair.cas, fairChoices_fair.clock, w_frames, w_args, w_heap, w_applies, trivial, w_rest, w_case⟩
end start1
theorem witness_1 : WitnessClaimed_1 := ⟨start1.p0, start1.e0, start1.about1, start1.theMethod, start1.args0, start1.below0, start1.atStart⟩
end Jvm.Pilot.@@N@@
