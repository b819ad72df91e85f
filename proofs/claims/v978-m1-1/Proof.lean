import JvmDerived
import JvmDerived.Pilot.@@N@@Statement
import JvmDerived.Pilot.@@N@@Code
set_option linter.unusedVariables false
set_option linter.unusedSimpArgs false
namespace Jvm.OwnW
open Sem ClassFile Op Lib Jvm.Stand Jvm.Free Jvm.LawKit Jvm.RoadKit
/-- what a walk knows of its method and of the run -/
def Cx (p : Program) (s : State) (m : MethodId) (meth : Method) (c : Code) (Z : State) (y : MethodName) (bs : ByteArray) (ml : Nat) (ret : Option FieldType) : Prop :=
  p.tables.exec = Jvm.exec ∧ c.code = bs ∧ c.maxLocals = ml ∧ s.vm.findClass y.cls = some m.cls ∧ meth.name = y.name ∧ meth.sig.returnType = ret ∧ meth.locks = false ∧ Z.Warmed39 s.vm
/-- from the state u the body comes to its end, returns v and leaves the heap as Q says; it wrote cells from n0 on alone -/
def Runs (p : Program) (e : Env) (below : List Frame) (s : State) (R : Room) (n0 : Nat) (Q : Option Value → Heap → Prop) (u : State) : Prop :=
  ∃ s₂ o, Steps p.tables e below u s₂ ∧ s₂.status = .running ∧ Ended s₂ below o ∧ ∃ v Ls, o = .returned v ∧ (Q v s₂.heap ∧ Fr n0 Ls) ∧ FrameEnd s o s₂ Ls R.cells R.slots
/-- from pc with these locals and this stack, the heap being h, k cells and n slots made so far: the body ends as Q says -/
def Go (l : Launch) (Z : State) (R : Room) (y : MethodName) (bs : ByteArray) (ml : Nat) (ret : Option FieldType) (n0 : Nat) (Q : Option Value → Heap → Prop) (h : Heap) (k n : Nat) (pc : Nat) (L : Array Slot) (St : List Value) : Prop :=
  ∀ (p : Program) (e : Env) (s : State) (m : MethodId) (args : Array Value) (below : List Frame) (meth : Method) (c : Code) (T : State) (locs : List Loc),
    Cx p s m meth c Z y bs ml ret → Stand p l e R s m args below meth c T locs k n → Fr n0 locs → T.heap = h → Runs p e below s R n0 Q (T.setTop (mkF m pc L St))
/-- it returns r, the heap as it was -/
def Ret (r : Option Value) (h0 : Heap) : Option Value → Heap → Prop := fun v h => v = r ∧ h0 = h
/-- the law says 1 -/
def One1 : Option Value → Heap → Prop := fun v _ => v = some (.int 1)
/-- the body's contract -/
def Con (l : Launch) (Z : State) (R : Room) (y : MethodName) (bs : ByteArray) (ml : Nat) (ret : Option FieldType) (n0 : Nat) (as' : Array Value) (h : Heap) (Q : Option Value → Heap → Prop) : Prop :=
  ∀ ws, MetFree l y (head1 (Jvm.Cond.code y bs ml ret :: ws) R) (fun a U => a = as' ∧ Z.Warmed39 U.vm ∧ U.heap = h) (fun _ _ _ _ _ => True) (fun _ U o U' => ∃ v Ls, o = .returned v ∧ (Q v U'.heap ∧ Fr n0 Ls) ∧ FrameEnd U o U' Ls R.cells R.slots)
theorem Runs.thru {p : Program} {e : Env} {below : List Frame} {s : State} {R : Room} {n0 : Nat} {Q : Option Value → Heap → Prop} {u u' : State} (q : Runs p e below s R n0 Q u') (st : ∀ t, Steps p.tables e below u' t → Steps p.tables e below u t) : Runs p e below s R n0 Q u := by
  obtain ⟨s₂, o, h1, r⟩ := q
  exact ⟨s₂, o, st _ h1, r⟩
/-- what stood in h0 stands in h -/
theorem ext_refl (h : Heap) : Ext h h := ⟨Nat.le_refl _, fun _ _ q => q⟩
theorem ext_trans {h0 h h' : Heap} (X : Ext h0 h) (E : Ext h h') : Ext h0 h' := ⟨Nat.le_trans X.1 E.1, fun a c q => E.2 a c (X.2 a c q)⟩
theorem ext_keep {h0 h h' : Heap} {ws : List Addr} (X : Ext h0 h) (K : Keep h h' ws) (q : ∀ x ∈ ws, h0.size ≤ x) : Ext h0 h' :=
  ⟨Nat.le_trans X.1 K.1, fun a c r => K.2.1 a c (X.2 a c r) fun z => absurd (Array.getElem?_eq_some_iff.mp r).1 (Nat.not_lt.mpr (q a z))⟩
theorem ext_wr {h0 h h' : Heap} {a : Addr} {sl : Nat} {v : Value} (X : Ext h0 h) (W : Wr h h' a sl v) (q : h0.size ≤ a) : Ext h0 h' := ext_keep X (Keep.of_wr W) (allS q all0)
theorem exa_ns {Z : State} {h : Heap} {a : Addr} {C : String} (E : Exa Z h a C) : ∀ c : Cell, h[a]? = some c → c.vm.isStatics = false := fun c q => by
  obtain ⟨cell, k, h1, -, -, h4, -⟩ := E
  cases h1.symm.trans q
  exact h4
theorem sta_keep {Z : State} {h h' : Heap} {C n d : String} {w : Value} {ws : List Addr} (F : Sta Z h C n d w) (K : Keep h h' ws) (q : ∀ x ∈ ws, ∀ c : Cell, h[x]? = some c → c.vm.isStatics = false) : Sta Z h' C n d w := by
  obtain ⟨cf, i, k, f, st, cell, h1, h2, h3, h4, h5, h6, h7⟩ := F
  exact ⟨cf, i, k, f, st, cell, h1, h2, h3, h4, K.2.1 st cell h5 (fun m => by have r := q st m cell h5; rw [h6] at r; cases r), h6, h7⟩
theorem eqI {args : Array Value} {first s : State} {o : Option Outcome} {idx : List Nat} {a b : Term} {k : Int32} (h : (Cond.eq a b).value args first o s idx = some true) (hb : b.eval args first o idx s = some (.int k)) : a.eval args first o idx s = some (.int k) := by
  obtain ⟨x, z, e1, e2, k1, k2⟩ := cmp_v (Or.inl h)
  cases hb.symm.trans e2
  obtain ⟨w, rfl⟩ := k2
  have h' := h
  simp only [Cond.value, e1, hb, Option.some.injEq, decide_eq_true_eq] at h'
  rw [e1, h']
theorem eqJ {args : Array Value} {first s : State} {o : Option Outcome} {idx : List Nat} {a b : Term} {k : Int64} (h : (Cond.eq a b).value args first o s idx = some true) (hb : b.eval args first o idx s = some (.long k)) : a.eval args first o idx s = some (.long k) := by
  obtain ⟨x, z, e1, e2, k1, k2⟩ := cmp_v (Or.inl h)
  cases hb.symm.trans e2
  obtain ⟨w, rfl⟩ := k2
  have h' := h
  simp only [Cond.value, e1, hb, Option.some.injEq, decide_eq_true_eq] at h'
  rw [e1, h']
theorem arrClass {Z : State} {a0 : Array Value} {C : String} (w : (Cond.arrayOver (.object C)).before a0 Z = true) : (Cond.arrayClass (.object C)).before a0 Z = true := by
  obtain ⟨comp, c, k, -, -, h3, h4, h5⟩ := Cond.arrayOver_spec w
  simp [Cond.before, Cond.holds, Cond.value, h5, h3, h4]
theorem ovrOf {Z : State} {a0 : Array Value} {C : String} {cI : ClassId} (w : (Cond.arrayOver (.object C)).before a0 Z = true) (h : Z.vm.findClass (FieldType.array (.object C)).toString = some cI) : Ovr Z cI C := by
  obtain ⟨comp, c, k, h1, -, h3, h4, h5⟩ := Cond.arrayOver_spec w
  have e : (FieldType.array (.object C)).toString = "[" ++ (FieldType.object C).toString := rfl
  rw [e, h5] at h
  cases h
  exact ⟨k, comp, h3, h4, h1⟩
section Laws
variable {l : Launch} {Z : State} {R : Room} {y : MethodName} {bs : ByteArray} {ml : Nat} {ret : Option FieldType} {n0 : Nat} {Q : Option Value → Heap → Prop} {h : Heap} {k n : Nat} {k' n' : Nat} {pc pc' : Nat} {L L' : Array Slot} {St : List Value} {a0 : Array Value}
theorem Con.of {as' : Array Value} (pn : plainFor y = true) (ef : ∀ m, entryFrame m as' ml = mkF m 0 L []) (b : Go l Z R y bs ml ret n0 Q h 0 0 0 L []) : Con l Z R y bs ml ret n0 as' h Q := by
  intro ws
  refine MetFree.of_bodySF pn hisR ?_
  intro p e s m args below meth c s₁ Bd hml0 hP hK
  obtain ⟨rfl, hZ, hh⟩ := hP
  have X0 : Stand p l e R s m args below meth c s₁ [] 0 0 := Stand.of_body Bd
  have e0 : s₁.heap = h := by rw [← hh, Bd.state]; rfl
  have q := b p e s m args below meth c s₁ [] ⟨Bd.exec, Bd.bytes, hml0, findClass_of_methodNamed Bd.named, (name_of_methodNamed Bd.named Bd.method).1, Bd.returns, Bd.notSynchronized, hZ⟩ X0 (Fr.nil n0) e0
  rw [← ef m] at q
  exact q
theorem Con.mono {as' : Array Value} {Q' : Option Value → Heap → Prop} (q : Con l Z R y bs ml ret n0 as' h Q) (i : ∀ v h', Q v h' → Q' v h') : Con l Z R y bs ml ret n0 as' h Q' := by
  intro ws p e ha hc hk s m args below hf happ hP hK
  obtain ⟨s₂, o, h1, h2, h3, v, Ls, h4, ⟨h5, h6⟩, h7⟩ := q ws p e ha hc hk s m args below hf happ hP hK
  exact ⟨s₂, o, h1, h2, h3, v, Ls, h4, ⟨i _ _ h5, h6⟩, h7⟩
/-- the same, the heap's name turned -/
theorem Go.cast {h' : Heap} (e : h' = h) (q : Go l Z R y bs ml ret n0 Q h' k n pc L St) : Go l Z R y bs ml ret n0 Q h k n pc L St := e ▸ q
theorem Go.more {k' n' : Nat} (hk : k ≤ k') (hn : n ≤ n') (q : Go l Z R y bs ml ret n0 Q h k' n' pc L St) : Go l Z R y bs ml ret n0 Q h k n pc L St := fun p e s m args below meth c T locs C X N eT => q p e s m args below meth c T locs C (X.mono hk hn) N eT
theorem Go.frm {St' : List Value} (q : Go l Z R y bs ml ret n0 Q h k n pc L' St') (e1 : L = L') (e2 : St = St') : Go l Z R y bs ml ret n0 Q h k n pc L St := by subst e1 e2; exact q

theorem iload {i : Nat} {v : Int32} (hd : decode bs pc = .ok (.iload i, 2)) (hl : L[i]? = some (.val (.int v))) (hp : pc + 2 = pc') (kt : Go l Z R y bs ml ret n0 Q h k n pc' L (.int v :: St)) : Go l Z R y bs ml ret n0 Q h k n pc L St := by
  subst hp
  intro p e s m args below meth c T locs C X N eT
  exact (kt p e s m args below meth c T locs C X N eT).thru fun t q => XS.iload X.here C.1 rfl (hb C.2.1 hd) hl q
theorem iloadN {i : Fin 4} {v : Int32} (hd : decode bs pc = .ok (.iload_n i, 1)) (hl : L[i.val]? = some (.val (.int v))) (hp : pc + 1 = pc') (kt : Go l Z R y bs ml ret n0 Q h k n pc' L (.int v :: St)) : Go l Z R y bs ml ret n0 Q h k n pc L St := by
  subst hp
  intro p e s m args below meth c T locs C X N eT
  exact (kt p e s m args below meth c T locs C X N eT).thru fun t q => XS.iloadN X.here C.1 rfl (hb C.2.1 hd) hl q
theorem istore {i : Nat} {v : Int32} (hd : decode bs pc = .ok (.istore i, 2)) (hl : storeLocals L i (.int v) = some L') (hp : pc + 2 = pc') (kt : Go l Z R y bs ml ret n0 Q h k n pc' L' St) : Go l Z R y bs ml ret n0 Q h k n pc L (.int v :: St) := by
  subst hp
  intro p e s m args below meth c T locs C X N eT
  exact (kt p e s m args below meth c T locs C X N eT).thru fun t q => XS.istore X.here C.1 rfl (hb C.2.1 hd) rfl hl q
theorem istoreN {i : Fin 4} {v : Int32} (hd : decode bs pc = .ok (.istore_n i, 1)) (hl : storeLocals L i.val (.int v) = some L') (hp : pc + 1 = pc') (kt : Go l Z R y bs ml ret n0 Q h k n pc' L' St) : Go l Z R y bs ml ret n0 Q h k n pc L (.int v :: St) := by
  subst hp
  intro p e s m args below meth c T locs C X N eT
  exact (kt p e s m args below meth c T locs C X N eT).thru fun t q => XS.istoreN X.here C.1 rfl (hb C.2.1 hd) rfl hl q
theorem lload {i : Nat} {v : Int64} (hd : decode bs pc = .ok (.lload i, 2)) (hl : L[i]? = some (.val (.long v))) (hp : pc + 2 = pc') (kt : Go l Z R y bs ml ret n0 Q h k n pc' L (.long v :: St)) : Go l Z R y bs ml ret n0 Q h k n pc L St := by
  subst hp
  intro p e s m args below meth c T locs C X N eT
  exact (kt p e s m args below meth c T locs C X N eT).thru fun t q => XS.lload X.here C.1 rfl (hb C.2.1 hd) hl q
theorem lloadN {i : Fin 4} {v : Int64} (hd : decode bs pc = .ok (.lload_n i, 1)) (hl : L[i.val]? = some (.val (.long v))) (hp : pc + 1 = pc') (kt : Go l Z R y bs ml ret n0 Q h k n pc' L (.long v :: St)) : Go l Z R y bs ml ret n0 Q h k n pc L St := by
  subst hp
  intro p e s m args below meth c T locs C X N eT
  exact (kt p e s m args below meth c T locs C X N eT).thru fun t q => XS.lloadN X.here C.1 rfl (hb C.2.1 hd) hl q
theorem lstore {i : Nat} {v : Int64} (hd : decode bs pc = .ok (.lstore i, 2)) (hl : storeLocals L i (.long v) = some L') (hp : pc + 2 = pc') (kt : Go l Z R y bs ml ret n0 Q h k n pc' L' St) : Go l Z R y bs ml ret n0 Q h k n pc L (.long v :: St) := by
  subst hp
  intro p e s m args below meth c T locs C X N eT
  exact (kt p e s m args below meth c T locs C X N eT).thru fun t q => XS.lstore X.here C.1 rfl (hb C.2.1 hd) rfl hl q
theorem lstoreN {i : Fin 4} {v : Int64} (hd : decode bs pc = .ok (.lstore_n i, 1)) (hl : storeLocals L i.val (.long v) = some L') (hp : pc + 1 = pc') (kt : Go l Z R y bs ml ret n0 Q h k n pc' L' St) : Go l Z R y bs ml ret n0 Q h k n pc L (.long v :: St) := by
  subst hp
  intro p e s m args below meth c T locs C X N eT
  exact (kt p e s m args below meth c T locs C X N eT).thru fun t q => XS.lstoreN X.here C.1 rfl (hb C.2.1 hd) rfl hl q
theorem aload {i : Nat} {v : Value} (hd : decode bs pc = .ok (.aload i, 2)) (hl : L[i]? = some (.val v)) (hv : v.isRef = true) (hp : pc + 2 = pc') (kt : Go l Z R y bs ml ret n0 Q h k n pc' L (v :: St)) : Go l Z R y bs ml ret n0 Q h k n pc L St := by
  subst hp
  intro p e s m args below meth c T locs C X N eT
  exact (kt p e s m args below meth c T locs C X N eT).thru fun t q => XS.aload X.here C.1 rfl (hb C.2.1 hd) hl hv q
theorem aloadN {i : Fin 4} {v : Value} (hd : decode bs pc = .ok (.aload_n i, 1)) (hl : L[i.val]? = some (.val v)) (hv : v.isRef = true) (hp : pc + 1 = pc') (kt : Go l Z R y bs ml ret n0 Q h k n pc' L (v :: St)) : Go l Z R y bs ml ret n0 Q h k n pc L St := by
  subst hp
  intro p e s m args below meth c T locs C X N eT
  exact (kt p e s m args below meth c T locs C X N eT).thru fun t q => XS.aloadN X.here C.1 rfl (hb C.2.1 hd) hl hv q
theorem astore {i : Nat} {v : Value} (hd : decode bs pc = .ok (.astore i, 2)) (hv : v.isRef = true) (hl : storeLocals L i v = some L') (hp : pc + 2 = pc') (kt : Go l Z R y bs ml ret n0 Q h k n pc' L' St) : Go l Z R y bs ml ret n0 Q h k n pc L (v :: St) := by
  subst hp
  intro p e s m args below meth c T locs C X N eT
  exact (kt p e s m args below meth c T locs C X N eT).thru fun t q => XS.astore X.here C.1 rfl (hb C.2.1 hd) rfl hv hl q
theorem astoreN {i : Fin 4} {v : Value} (hd : decode bs pc = .ok (.astore_n i, 1)) (hv : v.isRef = true) (hl : storeLocals L i.val v = some L') (hp : pc + 1 = pc') (kt : Go l Z R y bs ml ret n0 Q h k n pc' L' St) : Go l Z R y bs ml ret n0 Q h k n pc L (v :: St) := by
  subst hp
  intro p e s m args below meth c T locs C X N eT
  exact (kt p e s m args below meth c T locs C X N eT).thru fun t q => XS.astoreN X.here C.1 rfl (hb C.2.1 hd) rfl hv hl q
theorem iconst {i : Int} {v : Int32} (hd : decode bs pc = .ok (.iconst i, 1)) (hv : Int32.ofInt i = v) (hp : pc + 1 = pc') (kt : Go l Z R y bs ml ret n0 Q h k n pc' L (.int v :: St)) : Go l Z R y bs ml ret n0 Q h k n pc L St := by
  subst hp hv
  intro p e s m args below meth c T locs C X N eT
  exact (kt p e s m args below meth c T locs C X N eT).thru fun t q => XS.iconst X.here C.1 rfl (hb C.2.1 hd) q
theorem bipush {i : Int} {v : Int32} (hd : decode bs pc = .ok (.bipush i, 2)) (hv : (Int8.ofInt i).toInt32 = v) (hp : pc + 2 = pc') (kt : Go l Z R y bs ml ret n0 Q h k n pc' L (.int v :: St)) : Go l Z R y bs ml ret n0 Q h k n pc L St := by
  subst hp hv
  intro p e s m args below meth c T locs C X N eT
  exact (kt p e s m args below meth c T locs C X N eT).thru fun t q => XS.bipush X.here C.1 rfl (hb C.2.1 hd) q
theorem sipush {i : Int} {v : Int32} (hd : decode bs pc = .ok (.sipush i, 3)) (hv : (Int16.ofInt i).toInt32 = v) (hp : pc + 3 = pc') (kt : Go l Z R y bs ml ret n0 Q h k n pc' L (.int v :: St)) : Go l Z R y bs ml ret n0 Q h k n pc L St := by
  subst hp hv
  intro p e s m args below meth c T locs C X N eT
  exact (kt p e s m args below meth c T locs C X N eT).thru fun t q => XS.sipush X.here C.1 rfl (hb C.2.1 hd) q
theorem aconstNull  (hd : decode bs pc = .ok (.aconst_null, 1)) (hp : pc + 1 = pc') (kt : Go l Z R y bs ml ret n0 Q h k n pc' L (.null :: St)) : Go l Z R y bs ml ret n0 Q h k n pc L St := by
  subst hp
  intro p e s m args below meth c T locs C X N eT
  exact (kt p e s m args below meth c T locs C X N eT).thru fun t q => XS.aconstNull X.here C.1 rfl (hb C.2.1 hd) q
theorem iadd {x z : Int32} (hd : decode bs pc = .ok (.iadd, 1)) (hp : pc + 1 = pc') (kt : Go l Z R y bs ml ret n0 Q h k n pc' L (.int (x + z) :: St)) : Go l Z R y bs ml ret n0 Q h k n pc L (.int z :: .int x :: St) := by
  subst hp
  intro p e s m args below meth c T locs C X N eT
  exact (kt p e s m args below meth c T locs C X N eT).thru fun t q => XS.iadd X.here C.1 rfl (hb C.2.1 hd) rfl q
theorem isub {x z : Int32} (hd : decode bs pc = .ok (.isub, 1)) (hp : pc + 1 = pc') (kt : Go l Z R y bs ml ret n0 Q h k n pc' L (.int (x - z) :: St)) : Go l Z R y bs ml ret n0 Q h k n pc L (.int z :: .int x :: St) := by
  subst hp
  intro p e s m args below meth c T locs C X N eT
  exact (kt p e s m args below meth c T locs C X N eT).thru fun t q => XS.isub X.here C.1 rfl (hb C.2.1 hd) rfl q
theorem imul {x z : Int32} (hd : decode bs pc = .ok (.imul, 1)) (hp : pc + 1 = pc') (kt : Go l Z R y bs ml ret n0 Q h k n pc' L (.int (x * z) :: St)) : Go l Z R y bs ml ret n0 Q h k n pc L (.int z :: .int x :: St) := by
  subst hp
  intro p e s m args below meth c T locs C X N eT
  exact (kt p e s m args below meth c T locs C X N eT).thru fun t q => XS.imul X.here C.1 rfl (hb C.2.1 hd) rfl q
theorem iand {x z : Int32} (hd : decode bs pc = .ok (.iand, 1)) (hp : pc + 1 = pc') (kt : Go l Z R y bs ml ret n0 Q h k n pc' L (.int (x &&& z) :: St)) : Go l Z R y bs ml ret n0 Q h k n pc L (.int z :: .int x :: St) := by
  subst hp
  intro p e s m args below meth c T locs C X N eT
  exact (kt p e s m args below meth c T locs C X N eT).thru fun t q => XS.iand X.here C.1 rfl (hb C.2.1 hd) rfl q
theorem ior {x z : Int32} (hd : decode bs pc = .ok (.ior, 1)) (hp : pc + 1 = pc') (kt : Go l Z R y bs ml ret n0 Q h k n pc' L (.int (x ||| z) :: St)) : Go l Z R y bs ml ret n0 Q h k n pc L (.int z :: .int x :: St) := by
  subst hp
  intro p e s m args below meth c T locs C X N eT
  exact (kt p e s m args below meth c T locs C X N eT).thru fun t q => XS.ior X.here C.1 rfl (hb C.2.1 hd) rfl q
theorem ixor {x z : Int32} (hd : decode bs pc = .ok (.ixor, 1)) (hp : pc + 1 = pc') (kt : Go l Z R y bs ml ret n0 Q h k n pc' L (.int (x ^^^ z) :: St)) : Go l Z R y bs ml ret n0 Q h k n pc L (.int z :: .int x :: St) := by
  subst hp
  intro p e s m args below meth c T locs C X N eT
  exact (kt p e s m args below meth c T locs C X N eT).thru fun t q => XS.ixor X.here C.1 rfl (hb C.2.1 hd) rfl q
theorem ishl {x z : Int32} (hd : decode bs pc = .ok (.ishl, 1)) (hp : pc + 1 = pc') (kt : Go l Z R y bs ml ret n0 Q h k n pc' L (.int (x <<< (z &&& 31)) :: St)) : Go l Z R y bs ml ret n0 Q h k n pc L (.int z :: .int x :: St) := by
  subst hp
  intro p e s m args below meth c T locs C X N eT
  exact (kt p e s m args below meth c T locs C X N eT).thru fun t q => XS.ishl X.here C.1 rfl (hb C.2.1 hd) rfl q
theorem ishr {x z : Int32} (hd : decode bs pc = .ok (.ishr, 1)) (hp : pc + 1 = pc') (kt : Go l Z R y bs ml ret n0 Q h k n pc' L (.int (x >>> (z &&& 31)) :: St)) : Go l Z R y bs ml ret n0 Q h k n pc L (.int z :: .int x :: St) := by
  subst hp
  intro p e s m args below meth c T locs C X N eT
  exact (kt p e s m args below meth c T locs C X N eT).thru fun t q => XS.ishr X.here C.1 rfl (hb C.2.1 hd) rfl q
theorem iushr {x z : Int32} (hd : decode bs pc = .ok (.iushr, 1)) (hp : pc + 1 = pc') (kt : Go l Z R y bs ml ret n0 Q h k n pc' L (.int ((x.toUInt32 >>> (z &&& 31).toUInt32).toInt32) :: St)) : Go l Z R y bs ml ret n0 Q h k n pc L (.int z :: .int x :: St) := by
  subst hp
  intro p e s m args below meth c T locs C X N eT
  exact (kt p e s m args below meth c T locs C X N eT).thru fun t q => XS.iushr X.here C.1 rfl (hb C.2.1 hd) rfl q
theorem ladd {x z : Int64} (hd : decode bs pc = .ok (.ladd, 1)) (hp : pc + 1 = pc') (kt : Go l Z R y bs ml ret n0 Q h k n pc' L (.long (x + z) :: St)) : Go l Z R y bs ml ret n0 Q h k n pc L (.long z :: .long x :: St) := by
  subst hp
  intro p e s m args below meth c T locs C X N eT
  exact (kt p e s m args below meth c T locs C X N eT).thru fun t q => XS.ladd X.here C.1 rfl (hb C.2.1 hd) rfl q
theorem lsub {x z : Int64} (hd : decode bs pc = .ok (.lsub, 1)) (hp : pc + 1 = pc') (kt : Go l Z R y bs ml ret n0 Q h k n pc' L (.long (x - z) :: St)) : Go l Z R y bs ml ret n0 Q h k n pc L (.long z :: .long x :: St) := by
  subst hp
  intro p e s m args below meth c T locs C X N eT
  exact (kt p e s m args below meth c T locs C X N eT).thru fun t q => XS.lsub X.here C.1 rfl (hb C.2.1 hd) rfl q
theorem lmul {x z : Int64} (hd : decode bs pc = .ok (.lmul, 1)) (hp : pc + 1 = pc') (kt : Go l Z R y bs ml ret n0 Q h k n pc' L (.long (x * z) :: St)) : Go l Z R y bs ml ret n0 Q h k n pc L (.long z :: .long x :: St) := by
  subst hp
  intro p e s m args below meth c T locs C X N eT
  exact (kt p e s m args below meth c T locs C X N eT).thru fun t q => XS.lmul X.here C.1 rfl (hb C.2.1 hd) rfl q
theorem land {x z : Int64} (hd : decode bs pc = .ok (.land, 1)) (hp : pc + 1 = pc') (kt : Go l Z R y bs ml ret n0 Q h k n pc' L (.long (x &&& z) :: St)) : Go l Z R y bs ml ret n0 Q h k n pc L (.long z :: .long x :: St) := by
  subst hp
  intro p e s m args below meth c T locs C X N eT
  exact (kt p e s m args below meth c T locs C X N eT).thru fun t q => XS.land X.here C.1 rfl (hb C.2.1 hd) rfl q
theorem lor {x z : Int64} (hd : decode bs pc = .ok (.lor, 1)) (hp : pc + 1 = pc') (kt : Go l Z R y bs ml ret n0 Q h k n pc' L (.long (x ||| z) :: St)) : Go l Z R y bs ml ret n0 Q h k n pc L (.long z :: .long x :: St) := by
  subst hp
  intro p e s m args below meth c T locs C X N eT
  exact (kt p e s m args below meth c T locs C X N eT).thru fun t q => XS.lor X.here C.1 rfl (hb C.2.1 hd) rfl q
theorem lxor {x z : Int64} (hd : decode bs pc = .ok (.lxor, 1)) (hp : pc + 1 = pc') (kt : Go l Z R y bs ml ret n0 Q h k n pc' L (.long (x ^^^ z) :: St)) : Go l Z R y bs ml ret n0 Q h k n pc L (.long z :: .long x :: St) := by
  subst hp
  intro p e s m args below meth c T locs C X N eT
  exact (kt p e s m args below meth c T locs C X N eT).thru fun t q => XS.lxor X.here C.1 rfl (hb C.2.1 hd) rfl q
theorem lshl {x : Int64} {z : Int32} (hd : decode bs pc = .ok (.lshl, 1)) (hp : pc + 1 = pc') (kt : Go l Z R y bs ml ret n0 Q h k n pc' L (.long (x <<< (z &&& 0x3f).toInt64) :: St)) : Go l Z R y bs ml ret n0 Q h k n pc L (.int z :: .long x :: St) := by
  subst hp
  intro p e s m args below meth c T locs C X N eT
  exact (kt p e s m args below meth c T locs C X N eT).thru fun t q => XS.lshl X.here C.1 rfl (hb C.2.1 hd) rfl q
theorem lshr {x : Int64} {z : Int32} (hd : decode bs pc = .ok (.lshr, 1)) (hp : pc + 1 = pc') (kt : Go l Z R y bs ml ret n0 Q h k n pc' L (.long (x >>> (z &&& 0x3f).toInt64) :: St)) : Go l Z R y bs ml ret n0 Q h k n pc L (.int z :: .long x :: St) := by
  subst hp
  intro p e s m args below meth c T locs C X N eT
  exact (kt p e s m args below meth c T locs C X N eT).thru fun t q => XS.lshr X.here C.1 rfl (hb C.2.1 hd) rfl q
theorem lushr {x : Int64} {z : Int32} (hd : decode bs pc = .ok (.lushr, 1)) (hp : pc + 1 = pc') (kt : Go l Z R y bs ml ret n0 Q h k n pc' L (.long ((x.toUInt64 >>> (z &&& 0x3f).toInt64.toUInt64).toInt64) :: St)) : Go l Z R y bs ml ret n0 Q h k n pc L (.int z :: .long x :: St) := by
  subst hp
  intro p e s m args below meth c T locs C X N eT
  exact (kt p e s m args below meth c T locs C X N eT).thru fun t q => XS.lushr X.here C.1 rfl (hb C.2.1 hd) rfl q
theorem ineg {x : Int32} (hd : decode bs pc = .ok (.ineg, 1)) (hp : pc + 1 = pc') (kt : Go l Z R y bs ml ret n0 Q h k n pc' L (.int (-x) :: St)) : Go l Z R y bs ml ret n0 Q h k n pc L (.int x :: St) := by
  subst hp
  intro p e s m args below meth c T locs C X N eT
  exact (kt p e s m args below meth c T locs C X N eT).thru fun t q => XS.ineg X.here C.1 rfl (hb C.2.1 hd) rfl q
theorem lneg {x : Int64} (hd : decode bs pc = .ok (.lneg, 1)) (hp : pc + 1 = pc') (kt : Go l Z R y bs ml ret n0 Q h k n pc' L (.long (-x) :: St)) : Go l Z R y bs ml ret n0 Q h k n pc L (.long x :: St) := by
  subst hp
  intro p e s m args below meth c T locs C X N eT
  exact (kt p e s m args below meth c T locs C X N eT).thru fun t q => XS.lneg X.here C.1 rfl (hb C.2.1 hd) rfl q
theorem i2l {x : Int32} (hd : decode bs pc = .ok (.i2l, 1)) (hp : pc + 1 = pc') (kt : Go l Z R y bs ml ret n0 Q h k n pc' L (.long (x.toInt64) :: St)) : Go l Z R y bs ml ret n0 Q h k n pc L (.int x :: St) := by
  subst hp
  intro p e s m args below meth c T locs C X N eT
  exact (kt p e s m args below meth c T locs C X N eT).thru fun t q => XS.i2l X.here C.1 rfl (hb C.2.1 hd) rfl q
theorem l2i {x : Int64} (hd : decode bs pc = .ok (.l2i, 1)) (hp : pc + 1 = pc') (kt : Go l Z R y bs ml ret n0 Q h k n pc' L (.int (x.toInt32) :: St)) : Go l Z R y bs ml ret n0 Q h k n pc L (.long x :: St) := by
  subst hp
  intro p e s m args below meth c T locs C X N eT
  exact (kt p e s m args below meth c T locs C X N eT).thru fun t q => XS.l2i X.here C.1 rfl (hb C.2.1 hd) rfl q
theorem i2b {x : Int32} (hd : decode bs pc = .ok (.i2b, 1)) (hp : pc + 1 = pc') (kt : Go l Z R y bs ml ret n0 Q h k n pc' L (.int (x.toInt8.toInt32) :: St)) : Go l Z R y bs ml ret n0 Q h k n pc L (.int x :: St) := by
  subst hp
  intro p e s m args below meth c T locs C X N eT
  exact (kt p e s m args below meth c T locs C X N eT).thru fun t q => XS.i2b X.here C.1 rfl (hb C.2.1 hd) rfl q
theorem i2s {x : Int32} (hd : decode bs pc = .ok (.i2s, 1)) (hp : pc + 1 = pc') (kt : Go l Z R y bs ml ret n0 Q h k n pc' L (.int (x.toInt16.toInt32) :: St)) : Go l Z R y bs ml ret n0 Q h k n pc L (.int x :: St) := by
  subst hp
  intro p e s m args below meth c T locs C X N eT
  exact (kt p e s m args below meth c T locs C X N eT).thru fun t q => XS.i2s X.here C.1 rfl (hb C.2.1 hd) rfl q
theorem i2c {x : Int32} (hd : decode bs pc = .ok (.i2c, 1)) (hp : pc + 1 = pc') (kt : Go l Z R y bs ml ret n0 Q h k n pc' L (.int (x.toUInt32.toUInt16.toUInt32.toInt32) :: St)) : Go l Z R y bs ml ret n0 Q h k n pc L (.int x :: St) := by
  subst hp
  intro p e s m args below meth c T locs C X N eT
  exact (kt p e s m args below meth c T locs C X N eT).thru fun t q => XS.i2c X.here C.1 rfl (hb C.2.1 hd) rfl q
theorem lcmp {x z : Int64} (hd : decode bs pc = .ok (.lcmp, 1)) (hp : pc + 1 = pc') (kt : Go l Z R y bs ml ret n0 Q h k n pc' L (.int (lcmpW x z) :: St)) : Go l Z R y bs ml ret n0 Q h k n pc L (.long z :: .long x :: St) := by
  subst hp
  intro p e s m args below meth c T locs C X N eT
  exact (kt p e s m args below meth c T locs C X N eT).thru fun t q => XS.lcmp X.here C.1 rfl (hb C.2.1 hd) rfl q
theorem idiv {x z : Int32} (hd : decode bs pc = .ok (.idiv, 1)) (hz : z ≠ 0) (hp : pc + 1 = pc') (kt : Go l Z R y bs ml ret n0 Q h k n pc' L (.int (x / z) :: St)) : Go l Z R y bs ml ret n0 Q h k n pc L (.int z :: .int x :: St) := by
  subst hp
  intro p e s m args below meth c T locs C X N eT
  exact (kt p e s m args below meth c T locs C X N eT).thru fun t q => XS.idiv X.here C.1 rfl (hb C.2.1 hd) rfl hz q
theorem irem {x z : Int32} (hd : decode bs pc = .ok (.irem, 1)) (hz : z ≠ 0) (hp : pc + 1 = pc') (kt : Go l Z R y bs ml ret n0 Q h k n pc' L (.int (x % z) :: St)) : Go l Z R y bs ml ret n0 Q h k n pc L (.int z :: .int x :: St) := by
  subst hp
  intro p e s m args below meth c T locs C X N eT
  exact (kt p e s m args below meth c T locs C X N eT).thru fun t q => iremM X C.1 rfl (hb C.2.1 hd) rfl hz q
theorem lrem {x z : Int64} (hd : decode bs pc = .ok (.lrem, 1)) (hz : z ≠ 0) (hp : pc + 1 = pc') (kt : Go l Z R y bs ml ret n0 Q h k n pc' L (.long (x % z) :: St)) : Go l Z R y bs ml ret n0 Q h k n pc L (.long z :: .long x :: St) := by
  subst hp
  rw [← lrem_mod] at kt
  intro p e s m args below meth c T locs C X N eT
  exact (kt p e s m args below meth c T locs C X N eT).thru fun t q => XS.lrem X.here C.1 rfl (hb C.2.1 hd) rfl hz q
theorem ldiv {x z : Int64} (hd : decode bs pc = .ok (.ldiv, 1)) (hz : z ≠ 0) (hp : pc + 1 = pc') (kt : Go l Z R y bs ml ret n0 Q h k n pc' L (.long (x / z) :: St)) : Go l Z R y bs ml ret n0 Q h k n pc L (.long z :: .long x :: St) := by
  subst hp
  intro p e s m args below meth c T locs C X N eT
  exact (kt p e s m args below meth c T locs C X N eT).thru fun t q => XS.ldiv X.here C.1 rfl (hb C.2.1 hd) rfl hz q
theorem dup {v : Value} (hd : decode bs pc = .ok (.dup, 1)) (hc : v.category = 1) (hp : pc + 1 = pc') (kt : Go l Z R y bs ml ret n0 Q h k n pc' L (v :: v :: St)) : Go l Z R y bs ml ret n0 Q h k n pc L (v :: St) := by
  subst hp
  intro p e s m args below meth c T locs C X N eT
  exact (kt p e s m args below meth c T locs C X N eT).thru fun t q => XS.dup X.here C.1 rfl (hb C.2.1 hd) rfl hc q
theorem pop {v : Value} (hd : decode bs pc = .ok (.pop, 1)) (hc : v.category = 1) (hp : pc + 1 = pc') (kt : Go l Z R y bs ml ret n0 Q h k n pc' L St) : Go l Z R y bs ml ret n0 Q h k n pc L (v :: St) := by
  subst hp
  intro p e s m args below meth c T locs C X N eT
  exact (kt p e s m args below meth c T locs C X N eT).thru fun t q => XS.pop X.here C.1 rfl (hb C.2.1 hd) rfl hc q
theorem dupX1 {v w : Value} (hd : decode bs pc = .ok (.dup_x1, 1)) (hc : v.category = 1) (hw : w.category = 1) (hp : pc + 1 = pc') (kt : Go l Z R y bs ml ret n0 Q h k n pc' L (v :: w :: v :: St)) : Go l Z R y bs ml ret n0 Q h k n pc L (v :: w :: St) := by
  subst hp
  intro p e s m args below meth c T locs C X N eT
  exact (kt p e s m args below meth c T locs C X N eT).thru fun t q => XS.dupX1 X.here C.1 rfl (hb C.2.1 hd) rfl hc hw q
theorem dup2 {v w : Value} (hd : decode bs pc = .ok (.dup2, 1)) (hc : v.category = 1) (hw : w.category = 1) (hp : pc + 1 = pc') (kt : Go l Z R y bs ml ret n0 Q h k n pc' L (v :: w :: v :: w :: St)) : Go l Z R y bs ml ret n0 Q h k n pc L (v :: w :: St) := by
  subst hp
  intro p e s m args below meth c T locs C X N eT
  exact (kt p e s m args below meth c T locs C X N eT).thru fun t q => XT.dup2 X.here C.1 rfl (hb C.2.1 hd) rfl hc hw q
theorem dup2L {x : Int64} (hd : decode bs pc = .ok (.dup2, 1)) (hp : pc + 1 = pc') (kt : Go l Z R y bs ml ret n0 Q h k n pc' L (.long x :: .long x :: St)) : Go l Z R y bs ml ret n0 Q h k n pc L (.long x :: St) := by
  subst hp
  intro p e s m args below meth c T locs C X N eT
  exact (kt p e s m args below meth c T locs C X N eT).thru fun t q => XT.dup2L X.here C.1 rfl (hb C.2.1 hd) rfl q
theorem lconst {i : Fin 2} {v : Int64} (hd : decode bs pc = .ok (.lconst i, 1)) (hv : Int64.ofNat i.val = v) (hp : pc + 1 = pc') (kt : Go l Z R y bs ml ret n0 Q h k n pc' L (.long v :: St)) : Go l Z R y bs ml ret n0 Q h k n pc L St := by
  subst hp hv
  intro p e s m args below meth c T locs C X N eT
  exact (kt p e s m args below meth c T locs C X N eT).thru fun t q => XS.lconst X.here C.1 rfl (hb C.2.1 hd) q
theorem iinc {i : Nat} {cst : Int} {x d : Int32} (hd : decode bs pc = .ok (.iinc i cst, 3)) (hl : L[i]? = some (.val (.int x))) (hv : Int32.ofInt cst = d) (hs : storeLocals L i (.int (x + d)) = some L') (hp : pc + 3 = pc') (kt : Go l Z R y bs ml ret n0 Q h k n pc' L' St) : Go l Z R y bs ml ret n0 Q h k n pc L St := by
  subst hp hv
  intro p e s m args below meth c T locs C X N eT
  exact (kt p e s m args below meth c T locs C X N eT).thru fun t q => XS.iinc X.here C.1 rfl (hb C.2.1 hd) hl hs q
theorem goto {o : Int} (hd : decode bs pc = .ok (.goto o, 3)) (ho : 0 ≤ (pc : Int) + o) (hp : ((pc : Int) + o).toNat = pc') (kt : Go l Z R y bs ml ret n0 Q h k n pc' L St) : Go l Z R y bs ml ret n0 Q h k n pc L St := by
  intro p e s m args below meth c T locs C X N eT
  exact (kt p e s m args below meth c T locs C X N eT).thru fun t q => XS.goto X.here C.1 rfl rfl (hb C.2.1 hd) ho hp q
theorem icmpY {cd : ClassFile.Cond} {o : Int} {x z : Int32} (hd : decode bs pc = .ok (.if_icmp cd o, 3)) (hc : if_icmp.holds cd x z = true) (ho : 0 ≤ (pc : Int) + o) (hp : ((pc : Int) + o).toNat = pc') (kt : Go l Z R y bs ml ret n0 Q h k n pc' L St) : Go l Z R y bs ml ret n0 Q h k n pc L (.int z :: .int x :: St) := by
  intro p e s m args below meth c T locs C X N eT
  exact (kt p e s m args below meth c T locs C X N eT).thru fun t q => XS.icmpYes X.here C.1 rfl rfl (hb C.2.1 hd) rfl hc ho hp q
theorem icmpN {cd : ClassFile.Cond} {o : Int} {x z : Int32} (hd : decode bs pc = .ok (.if_icmp cd o, 3)) (hc : if_icmp.holds cd x z = false) (hp : pc + 3 = pc') (kt : Go l Z R y bs ml ret n0 Q h k n pc' L St) : Go l Z R y bs ml ret n0 Q h k n pc L (.int z :: .int x :: St) := by
  subst hp
  intro p e s m args below meth c T locs C X N eT
  exact (kt p e s m args below meth c T locs C X N eT).thru fun t q => XS.icmpNo X.here C.1 rfl (hb C.2.1 hd) rfl hc q
theorem ifcY {cd : ClassFile.Cond} {o : Int} {x : Int32} (hd : decode bs pc = .ok (.ifCond cd o, 3)) (hc : ifCond.holds cd x = true) (ho : 0 ≤ (pc : Int) + o) (hp : ((pc : Int) + o).toNat = pc') (kt : Go l Z R y bs ml ret n0 Q h k n pc' L St) : Go l Z R y bs ml ret n0 Q h k n pc L (.int x :: St) := by
  intro p e s m args below meth c T locs C X N eT
  exact (kt p e s m args below meth c T locs C X N eT).thru fun t q => XS.ifYes X.here C.1 rfl rfl (hb C.2.1 hd) rfl hc ho hp q
theorem ifcN {cd : ClassFile.Cond} {o : Int} {x : Int32} (hd : decode bs pc = .ok (.ifCond cd o, 3)) (hc : ifCond.holds cd x = false) (hp : pc + 3 = pc') (kt : Go l Z R y bs ml ret n0 Q h k n pc' L St) : Go l Z R y bs ml ret n0 Q h k n pc L (.int x :: St) := by
  subst hp
  intro p e s m args below meth c T locs C X N eT
  exact (kt p e s m args below meth c T locs C X N eT).thru fun t q => XS.ifNo X.here C.1 rfl (hb C.2.1 hd) rfl hc q
theorem ifnullY {o : Int}  (hd : decode bs pc = .ok (.ifnull o, 3)) (ho : 0 ≤ (pc : Int) + o) (hp : ((pc : Int) + o).toNat = pc') (kt : Go l Z R y bs ml ret n0 Q h k n pc' L St) : Go l Z R y bs ml ret n0 Q h k n pc L (.null :: St) := by
  intro p e s m args below meth c T locs C X N eT
  exact (kt p e s m args below meth c T locs C X N eT).thru fun t q => XS.ifnullYes X.here C.1 rfl rfl (hb C.2.1 hd) rfl ho hp q
theorem ifnullN {o : Int} {b : Addr} (hd : decode bs pc = .ok (.ifnull o, 3)) (hp : pc + 3 = pc') (kt : Go l Z R y bs ml ret n0 Q h k n pc' L St) : Go l Z R y bs ml ret n0 Q h k n pc L (.ref b :: St) := by
  subst hp
  intro p e s m args below meth c T locs C X N eT
  exact (kt p e s m args below meth c T locs C X N eT).thru fun t q => XS.ifnullNo X.here C.1 rfl (hb C.2.1 hd) rfl q
theorem ifnonnullY {o : Int} {b : Addr} (hd : decode bs pc = .ok (.ifnonnull o, 3)) (ho : 0 ≤ (pc : Int) + o) (hp : ((pc : Int) + o).toNat = pc') (kt : Go l Z R y bs ml ret n0 Q h k n pc' L St) : Go l Z R y bs ml ret n0 Q h k n pc L (.ref b :: St) := by
  intro p e s m args below meth c T locs C X N eT
  exact (kt p e s m args below meth c T locs C X N eT).thru fun t q => XS.ifnonnullYes X.here C.1 rfl rfl (hb C.2.1 hd) rfl ho hp q
theorem ifnonnullN {o : Int}  (hd : decode bs pc = .ok (.ifnonnull o, 3)) (hp : pc + 3 = pc') (kt : Go l Z R y bs ml ret n0 Q h k n pc' L St) : Go l Z R y bs ml ret n0 Q h k n pc L (.null :: St) := by
  subst hp
  intro p e s m args below meth c T locs C X N eT
  exact (kt p e s m args below meth c T locs C X N eT).thru fun t q => XS.ifnonnullNo X.here C.1 rfl (hb C.2.1 hd) rfl q
theorem acmp {cd : ACond} {o : Int} {x z : Value} {same : Bool} (hd : decode bs pc = .ok (.if_acmp cd o, 3)) (h1 : x.isRef = true) (h2 : z.isRef = true) (hq : decide (x = z) = same) (ho : 0 ≤ (pc : Int) + o) (hp : pc' = if acV cd same = true then ((pc : Int) + o).toNat else pc + 3) (kt : Go l Z R y bs ml ret n0 Q h k n pc' L St) : Go l Z R y bs ml ret n0 Q h k n pc L (z :: x :: St) := by
  intro p e s m args below meth c T locs C X N eT
  exact (kt p e s m args below meth c T locs C X N eT).thru fun t q => Jvm.RoadKit.acmp (g := mkF m pc L (z :: x :: St)) X C.1 rfl h1 h2 rfl (hb C.2.1 hd) rfl hq ho hp q
theorem pop2J {x : Int64} (hd : decode bs pc = .ok (.pop2, 1)) (hp : pc + 1 = pc') (kt : Go l Z R y bs ml ret n0 Q h k n pc' L St) : Go l Z R y bs ml ret n0 Q h k n pc L (.long x :: St) := by
  subst hp
  intro p e s m args below meth c T locs C X N eT
  have hx := C.1
  have hd' := hb C.2.1 hd
  refine (kt p e s m args below meth c T locs C X N eT).thru fun t q => ?_
  show Steps p.tables e below (T.setTop { method := m, pc := pc, locals := L, stack := .long x :: St, locked := none }) t
  jvm_step X.here [X.here.top, hx, hd', Value.category]
  exact q
theorem tswIn {dflt low high : Int} {offs : Array Int} {len : Nat} {o : Int} {i : Int32} (hd : decode bs pc = .ok (.tableswitch dflt low high offs, len)) (hin : ¬ (i.toInt < low ∨ i.toInt > high)) (hoff : offs[(i.toInt - low).toNat]? = some o) (ho : 0 ≤ (pc : Int) + o) (hp : ((pc : Int) + o).toNat = pc') (kt : Go l Z R y bs ml ret n0 Q h k n pc' L St) : Go l Z R y bs ml ret n0 Q h k n pc L (.int i :: St) := by
  intro p e s m args below meth c T locs C X N eT
  exact (kt p e s m args below meth c T locs C X N eT).thru fun t q => XS.tswIn X.here C.1 rfl rfl (hb C.2.1 hd) rfl hin hoff ho hp q
theorem tswOut {dflt low high : Int} {offs : Array Int} {len : Nat} {i : Int32} (hd : decode bs pc = .ok (.tableswitch dflt low high offs, len)) (hout : i.toInt < low ∨ i.toInt > high) (ho : 0 ≤ (pc : Int) + dflt) (hp : ((pc : Int) + dflt).toNat = pc') (kt : Go l Z R y bs ml ret n0 Q h k n pc' L St) : Go l Z R y bs ml ret n0 Q h k n pc L (.int i :: St) := by
  intro p e s m args below meth c T locs C X N eT
  exact (kt p e s m args below meth c T locs C X N eT).thru fun t q => XS.tswOut X.here C.1 rfl rfl (hb C.2.1 hd) rfl hout ho hp q
theorem ret0 (hd : decode bs pc = .ok (.return_, 1)) (hr : ret = none) (hk : k ≤ R.cells) (hn : n ≤ R.slots) (hQ : Q none h) : Go l Z R y bs ml ret n0 Q h k n pc L [] := by
  intro p e s m args below meth c T locs C X N eT
  have hret := C.2.2.2.2.2.1.trans hr
  obtain ⟨fs, hl, hrun, hended, hW, hsame⟩ := X.leave (v := none) (fun _ => rfl) C.2.2.2.2.2.2.1
  exact ⟨_, _, X.returnOut C.1 hret (hb C.2.1 hd) hl, hrun, hended, _, _, rfl, ⟨by show Q none T.heap; rw [eT]; exact hQ, N⟩, ⟨_, rfl⟩, hW, hsame.mono hk hn⟩
theorem retN {t : FieldType} {x x' : Int32} (hd : decode bs pc = .ok (.ireturn, 1)) (hr : ret = some t) (ht : t = .boolean ∨ t = .byte ∨ t = .char ∨ t = .short) (hx : nar t x = x') (hk : k ≤ R.cells) (hn : n ≤ R.slots) (hQ : Q (some (.int x')) h) : Go l Z R y bs ml ret n0 Q h k n pc L (.int x :: St) := by
  intro p e s m args below meth c T locs C X N eT
  have hret := C.2.2.2.2.2.1.trans hr
  subst hx
  obtain ⟨fs, hl, hrun, hended, hW, hsame⟩ := X.leave (v := some (.int (nar t x))) (fun q => by rw [hret] at q; cases q) C.2.2.2.2.2.2.1
  exact ⟨_, _, Jvm.RoadKit.retN X C.1 hret ht (hb C.2.1 hd) hl, hrun, hended, _, _, rfl, ⟨by show Q _ T.heap; rw [eT]; exact hQ, N⟩, ⟨_, rfl⟩, hW, hsame.mono hk hn⟩
theorem retI {x : Int32} (hd : decode bs pc = .ok (.ireturn, 1)) (hr : ret = some .int) (hk : k ≤ R.cells) (hn : n ≤ R.slots) (hQ : Q (some (.int x)) h) : Go l Z R y bs ml ret n0 Q h k n pc L (.int x :: St) := by
  intro p e s m args below meth c T locs C X N eT
  have hret := C.2.2.2.2.2.1.trans hr
  obtain ⟨fs, hl, hrun, hended, hW, hsame⟩ := X.leave (v := some (.int x)) (fun q => by rw [hret] at q; cases q) C.2.2.2.2.2.2.1
  exact ⟨_, _, Jvm.RoadKit.retOut X C.1 hret rfl (Or.inl ⟨rfl, Or.inl rfl, _, rfl⟩) (hb C.2.1 hd) hl, hrun, hended, _, _, rfl, ⟨by show Q _ T.heap; rw [eT]; exact hQ, N⟩, ⟨_, rfl⟩, hW, hsame.mono hk hn⟩
theorem retJ {x : Int64} (hd : decode bs pc = .ok (.lreturn, 1)) (hr : ret = some .long) (hk : k ≤ R.cells) (hn : n ≤ R.slots) (hQ : Q (some (.long x)) h) : Go l Z R y bs ml ret n0 Q h k n pc L (.long x :: St) := by
  intro p e s m args below meth c T locs C X N eT
  have hret := C.2.2.2.2.2.1.trans hr
  obtain ⟨fs, hl, hrun, hended, hW, hsame⟩ := X.leave (v := some (.long x)) (fun q => by rw [hret] at q; cases q) C.2.2.2.2.2.2.1
  exact ⟨_, _, Jvm.RoadKit.retOut X C.1 hret rfl (Or.inr (Or.inl ⟨rfl, rfl, _, rfl⟩)) (hb C.2.1 hd) hl, hrun, hended, _, _, rfl, ⟨by show Q _ T.heap; rw [eT]; exact hQ, N⟩, ⟨_, rfl⟩, hW, hsame.mono hk hn⟩
theorem retD {x : UInt64} (hd : decode bs pc = .ok (.dreturn, 1)) (hr : ret = some .double) (hk : k ≤ R.cells) (hn : n ≤ R.slots) (hQ : Q (some (.double x)) h) : Go l Z R y bs ml ret n0 Q h k n pc L (.double x :: St) := by
  intro p e s m args below meth c T locs C X N eT
  have hret := C.2.2.2.2.2.1.trans hr
  obtain ⟨fs, hl, hrun, hended, hW, hsame⟩ := X.leave (v := some (.double x)) (fun q => by rw [hret] at q; cases q) C.2.2.2.2.2.2.1
  exact ⟨_, _, Jvm.RoadKit.retOut X C.1 hret rfl (Or.inr (Or.inr (Or.inl ⟨rfl, rfl, _, rfl⟩))) (hb C.2.1 hd) hl, hrun, hended, _, _, rfl, ⟨by show Q _ T.heap; rw [eT]; exact hQ, N⟩, ⟨_, rfl⟩, hW, hsame.mono hk hn⟩
theorem retA {t : FieldType} {v : Value} (hd : decode bs pc = .ok (.areturn, 1)) (hr : ret = some t) (ht : t.isReference = true) (hv : v.isRef = true) (hk : k ≤ R.cells) (hn : n ≤ R.slots) (hQ : Q (some v) h) : Go l Z R y bs ml ret n0 Q h k n pc L (v :: St) := by
  intro p e s m args below meth c T locs C X N eT
  have hret := C.2.2.2.2.2.1.trans hr
  obtain ⟨fs, hl, hrun, hended, hW, hsame⟩ := X.leave (v := some v) (fun q => by rw [hret] at q; cases q) C.2.2.2.2.2.2.1
  have hna : narrow t v = v := by rcases ref_cases hv with rfl | ⟨a, rfl⟩ <;> cases t <;> first | rfl | (cases ht)
  exact ⟨_, _, Jvm.RoadKit.retOut X C.1 hret hna (Or.inr (Or.inr (Or.inr (Or.inr ⟨rfl, ht, hv⟩)))) (hb C.2.1 hd) hl, hrun, hended, _, _, rfl, ⟨by show Q _ T.heap; rw [eT]; exact hQ, N⟩, ⟨_, rfl⟩, hW, hsame.mono hk hn⟩
theorem ldcI {index : Nat} {v : Int32} (hd : decode bs pc = .ok (.ldc index, 2)) (w : (Cond.constant y.cls index v).before a0 Z = true) (hp : pc + 2 = pc') (kt : Go l Z R y bs ml ret n0 Q h k n pc' L (.int v :: St)) : Go l Z R y bs ml ret n0 Q h k n pc L St := by
  subst hp
  intro p e s m args below meth c T locs C X N eT
  exact (kt p e s m args below meth c T locs C X N eT).thru (X.ldcInt C.1 C.2.2.2.1 (mvT C.2.2.2.2.2.2.2 w) (g := mkF m pc L St) rfl (hb C.2.1 hd))
theorem ldcwI {index : Nat} {v : Int32} (hd : decode bs pc = .ok (.ldc_w index, 3)) (w : (Cond.constant y.cls index v).before a0 Z = true) (hp : pc + 3 = pc') (kt : Go l Z R y bs ml ret n0 Q h k n pc' L (.int v :: St)) : Go l Z R y bs ml ret n0 Q h k n pc L St := by
  subst hp
  intro p e s m args below meth c T locs C X N eT
  exact (kt p e s m args below meth c T locs C X N eT).thru (X.ldcwInt C.1 C.2.2.2.1 (mvT C.2.2.2.2.2.2.2 w) (g := mkF m pc L St) rfl (hb C.2.1 hd))
theorem ldc2J {index : Nat} {v : Int64} (hd : decode bs pc = .ok (.ldc2_w index, 3)) (w : (Cond.constantLong y.cls index v).before a0 Z = true) (hp : pc + 3 = pc') (kt : Go l Z R y bs ml ret n0 Q h k n pc' L (.long v :: St)) : Go l Z R y bs ml ret n0 Q h k n pc L St := by
  subst hp
  intro p e s m args below meth c T locs C X N eT
  exact (kt p e s m args below meth c T locs C X N eT).thru (X.ldc2Long C.1 C.2.2.2.1 (mvT C.2.2.2.2.2.2.2 w) (g := mkF m pc L St) rfl (hb C.2.1 hd))
theorem getF {R0 O nm d host : String} {index : Nat} {a : Addr} {v : Value} (hd : decode bs pc = .ok (.getfield index, 3)) (w : (Cond.fieldLink y.cls index R0 nm d).before a0 Z = true ∨ (Cond.fieldLinkNest y.cls index R0 nm d host).before a0 Z = true) (via : Via Z R0 O nm d) (F : Fld Z h a O nm d v) (hp : pc + 3 = pc') (kt : Go l Z R y bs ml ret n0 Q h k n pc' L (v :: St)) : Go l Z R y bs ml ret n0 Q h k n pc L (.ref a :: St) := by
  subst hp
  intro p e s m args below meth c T locs C X N eT
  obtain ⟨T', X', e', st⟩ := Jvm.RoadKit.getF X C.1 C.2.2.2.2.2.2.2 C.2.2.2.1 w via eT F (g := mkF m pc L (.ref a :: St)) rfl rfl (hb C.2.1 hd)
  exact (kt p e s m args below meth c T' locs C X' N e').thru st
theorem getS {R0 O nm d host : String} {index : Nat} {v : Value} (hd : decode bs pc = .ok (.getstatic index, 3)) (w : (Cond.fieldLink y.cls index R0 nm d).before a0 Z = true ∨ (Cond.fieldLinkNest y.cls index R0 nm d host).before a0 Z = true) (via : Via Z R0 O nm d) (F : Sta Z h O nm d v) (hp : pc + 3 = pc') (kt : Go l Z R y bs ml ret n0 Q h k n pc' L (v :: St)) : Go l Z R y bs ml ret n0 Q h k n pc L St := by
  subst hp
  intro p e s m args below meth c T locs C X N eT
  obtain ⟨T', X', e', st⟩ := getS2 X C.1 C.2.2.2.2.2.2.2 C.2.2.2.1 w via eT F (g := mkF m pc L St) rfl (hb C.2.1 hd)
  exact (kt p e s m args below meth c T' locs C X' N e').thru st
theorem putF {R0 O nm d host CC : String} {index kk : Nat} {ty : FieldType} {a : Addr} {v old : Value} (hd : decode bs pc = .ok (.putfield index, 3)) (w : (Cond.fieldLink y.cls index R0 nm d).before a0 Z = true ∨ (Cond.fieldLinkNest y.cls index R0 nm d host).before a0 Z = true) (via : Via Z R0 O nm d) (F : Fld Z h a O nm d old) (E : Exa Z h a CC)
    (Ly : (Cond.lays CC O nm d).before a0 Z = true ∨ ((Cond.laysFinal CC O nm d).before a0 Z = true ∧ y.cls = O ∧ y.name = "<init>")) (wi : (Cond.instantiable CC kk).before a0 Z = true) (hty : parseFieldDescriptor d = some ty) (hn : narrow ty v = v) (hf : fits ty v = true) (g : n0 ≤ a) (hp : pc + 3 = pc')
    (kt : ∀ h', Wr h h' a (Jvm.RoadKit.slotOf Z O nm d) v → Go l Z R y bs ml ret n0 Q h' k n pc' L St) : Go l Z R y bs ml ret n0 Q h k n pc L (v :: .ref a :: St) := by
  subst hp
  intro p e s m args below meth c T locs C X N eT
  obtain ⟨T', h', X', e', W', st⟩ := Jvm.RoadKit.putF X C.1 C.2.2.2.2.2.2.2 C.2.2.2.1 w via eT F E (Ly.imp id fun q => ⟨q.1, q.2.1, C.2.2.2.2.1.trans q.2.2⟩) wi hty hn hf (g := mkF m pc L (v :: .ref a :: St)) rfl rfl (hb C.2.1 hd)
  exact (kt h' W' p e s m args below meth c T' _ C X' (Fr.snoc X' N g) e').thru st
theorem putFN {R0 O nm d CC : String} {index kk : Nat} {ty : FieldType} {a : Addr} {v v' old : Value} (hd : decode bs pc = .ok (.putfield index, 3)) (w : (Cond.fieldLink y.cls index R0 nm d).before a0 Z = true) (via : Via Z R0 O nm d) (F : Fld Z h a O nm d old) (E : Exa Z h a CC)
    (Ly : (Cond.lays CC O nm d).before a0 Z = true ∨ ((Cond.laysFinal CC O nm d).before a0 Z = true ∧ y.cls = O ∧ y.name = "<init>")) (wi : (Cond.instantiable CC kk).before a0 Z = true) (hty : parseFieldDescriptor d = some ty) (hn : narrow ty v = v') (hf : fits ty v' = true) (g : n0 ≤ a) (hp : pc + 3 = pc')
    (kt : ∀ h', Wr h h' a (Jvm.RoadKit.slotOf Z O nm d) v' → Go l Z R y bs ml ret n0 Q h' k n pc' L St) : Go l Z R y bs ml ret n0 Q h k n pc L (v :: .ref a :: St) := by
  subst hp
  intro p e s m args below meth c T locs C X N eT
  obtain ⟨T', h', X', e', W', st⟩ := Jvm.RoadKit.putFN X C.1 C.2.2.2.2.2.2.2 C.2.2.2.1 w via eT F E (Ly.imp id fun q => ⟨q.1, q.2.1, C.2.2.2.2.1.trans q.2.2⟩) wi hty hn hf (g := mkF m pc L (v :: .ref a :: St)) rfl rfl (hb C.2.1 hd)
  exact (kt h' W' p e s m args below meth c T' _ C X' (Fr.snoc X' N g) e').thru st
theorem newO {CC : String} {index nn : Nat} (hd : decode bs pc = .ok (.new index, 3)) (w : (Cond.classLink y.cls index CC).before a0 Z = true) (wi : (Cond.instantiable CC nn).before a0 Z = true) (wz : (Cond.initialized CC).before a0 Z = true) (ek : k + 1 = k') (en : n + nn = n') (hc : k' ≤ R.cells) (hl : n' ≤ R.slots) (hp : pc + 3 = pc')
    (kt : ∀ h' a, a = h.size → Ext h h' → Exa Z h' a CC → (∀ {O nm d : String} {ty : FieldType}, Laid Z a0 CC O nm d → parseFieldDescriptor d = some ty → Fld Z h' a O nm d (defaultValue ty)) → Go l Z R y bs ml ret n0 Q h' k' n' pc' L (.ref a :: St)) : Go l Z R y bs ml ret n0 Q h k n pc L St := by
  subst hp ek en
  intro p e s m args below meth c T locs C X N eT
  obtain ⟨T', h', X', e', E, A, D, -, st⟩ := Jvm.RoadKit.newO X C.1 C.2.2.2.2.2.2.2 C.2.2.2.1 w wi wz eT (g := mkF m pc L St) rfl (hb C.2.1 hd) hc hl
  exact (kt h' _ rfl E A D p e s m args below meth c T' _ C X' N e').thru st
theorem newP {aty : ArrayType} {x : Int32} {cap : Nat} (hd : decode bs pc = .ok (.newarray aty, 2)) (w : (Cond.arrayClass (newarray.typeOf aty)).before a0 Z = true) (hn : ¬ x < 0) (hcap : x.toNatClampNeg ≤ cap) (hb' : cap * 8 ≤ 536870912) (ek : k + 1 = k') (en : n + cap = n') (hc : k' ≤ R.cells) (hl : n' ≤ R.slots) (hp : pc + 2 = pc')
    (kt : ∀ h' cA a, a = h.size → Ext h h' → Arr Z h' a (newA cA (newarray.typeOf aty) x) (newarray.typeOf aty) → Go l Z R y bs ml ret n0 Q h' k' n' pc' L (.ref a :: St)) : Go l Z R y bs ml ret n0 Q h k n pc L (.int x :: St) := by
  subst hp ek en
  intro p e s m args below meth c T locs C X N eT
  obtain ⟨T', h', cA, X', e', E, A, st⟩ := Jvm.RoadKit.newP X C.1 C.2.2.2.2.2.2.2 w eT (g := mkF m pc L (.int x :: St)) rfl (hb C.2.1 hd) rfl hn hcap hb' hc hl
  exact (kt h' cA _ rfl E A p e s m args below meth c T' _ C X' N e').thru st
theorem newR {CC : String} {index : Nat} {x : Int32} {cap : Nat} (hd : decode bs pc = .ok (.anewarray index, 3)) (w1 : (Cond.classLink y.cls index CC).before a0 Z = true) (w2 : (Cond.arrayOver (.object CC)).before a0 Z = true) (hn : ¬ x < 0) (hcap : x.toNatClampNeg ≤ cap) (hb' : cap * 8 ≤ 536870912) (ek : k + 1 = k') (en : n + cap = n') (hc : k' ≤ R.cells) (hl : n' ≤ R.slots) (hp : pc + 3 = pc')
    (kt : ∀ h' cA a, a = h.size → Ext h h' → Arr Z h' a (newA cA (.object CC) x) (.object CC) → Ovr Z cA CC → Go l Z R y bs ml ret n0 Q h' k' n' pc' L (.ref a :: St)) : Go l Z R y bs ml ret n0 Q h k n pc L (.int x :: St) := by
  subst hp ek en
  intro p e s m args below meth c T locs C X N eT
  obtain ⟨T', h', cA, X', e', E, A, O, st⟩ := Jvm.RoadKit.newR X C.1 C.2.2.2.2.2.2.2 C.2.2.2.1 w1 w2 eT (g := mkF m pc L (.int x :: St)) rfl (hb C.2.1 hd) rfl hn hcap hb' hc hl
  exact (kt h' cA _ rfl E A O p e s m args below meth c T' _ C X' N e').thru st
theorem stI {a : Addr} {cl : Cell} {j : Int32} {x : Int32} (hd : decode bs pc = .ok (.iastore, 1)) (A : Arr Z h a cl .int) (hj : ¬ (j < 0 ∨ cl.slots.size ≤ j.toNatClampNeg)) (g : n0 ≤ a) (hp : pc + 1 = pc') (kt : ∀ h', Wr h h' a j.toNatClampNeg (.int x) → Go l Z R y bs ml ret n0 Q h' k n pc' L St) : Go l Z R y bs ml ret n0 Q h k n pc L (.int x :: .int j :: .ref a :: St) := by
  subst hp
  intro p e s m args below meth c T locs C X N eT
  obtain ⟨T', h', X', e', W', st⟩ := Jvm.RoadKit.stI X C.1 C.2.2.2.2.2.2.2 eT A hj (g := mkF m pc L (.int x :: .int j :: .ref a :: St)) rfl rfl (hb C.2.1 hd)
  exact (kt h' W' p e s m args below meth c T' _ C X' (Fr.snoc X' N g) e').thru st
theorem stJ {a : Addr} {cl : Cell} {j : Int32} {x : Int64} (hd : decode bs pc = .ok (.lastore, 1)) (A : Arr Z h a cl .long) (hj : ¬ (j < 0 ∨ cl.slots.size ≤ j.toNatClampNeg)) (g : n0 ≤ a) (hp : pc + 1 = pc') (kt : ∀ h', Wr h h' a j.toNatClampNeg (.long x) → Go l Z R y bs ml ret n0 Q h' k n pc' L St) : Go l Z R y bs ml ret n0 Q h k n pc L (.long x :: .int j :: .ref a :: St) := by
  subst hp
  intro p e s m args below meth c T locs C X N eT
  obtain ⟨T', h', X', e', W', st⟩ := Jvm.RoadKit.stJ X C.1 C.2.2.2.2.2.2.2 eT A hj (g := mkF m pc L (.long x :: .int j :: .ref a :: St)) rfl rfl (hb C.2.1 hd)
  exact (kt h' W' p e s m args below meth c T' _ C X' (Fr.snoc X' N g) e').thru st
theorem stB {a : Addr} {cl : Cell} {j : Int32} {x : Int32} (hd : decode bs pc = .ok (.bastore, 1)) (A : Arr Z h a cl .byte) (hj : ¬ (j < 0 ∨ cl.slots.size ≤ j.toNatClampNeg)) (g : n0 ≤ a) (hp : pc + 1 = pc') (kt : ∀ h', Wr h h' a j.toNatClampNeg (.int (nar .byte x)) → Go l Z R y bs ml ret n0 Q h' k n pc' L St) : Go l Z R y bs ml ret n0 Q h k n pc L (.int x :: .int j :: .ref a :: St) := by
  subst hp
  intro p e s m args below meth c T locs C X N eT
  obtain ⟨T', h', X', e', W', st⟩ := Jvm.RoadKit.stB X C.1 C.2.2.2.2.2.2.2 eT A hj (g := mkF m pc L (.int x :: .int j :: .ref a :: St)) rfl rfl (hb C.2.1 hd)
  exact (kt h' W' p e s m args below meth c T' _ C X' (Fr.snoc X' N g) e').thru st
theorem stC {a : Addr} {cl : Cell} {j : Int32} {x : Int32} (hd : decode bs pc = .ok (.castore, 1)) (A : Arr Z h a cl .char) (hj : ¬ (j < 0 ∨ cl.slots.size ≤ j.toNatClampNeg)) (g : n0 ≤ a) (hp : pc + 1 = pc') (kt : ∀ h', Wr h h' a j.toNatClampNeg (.int (nar .char x)) → Go l Z R y bs ml ret n0 Q h' k n pc' L St) : Go l Z R y bs ml ret n0 Q h k n pc L (.int x :: .int j :: .ref a :: St) := by
  subst hp
  intro p e s m args below meth c T locs C X N eT
  obtain ⟨T', h', X', e', W', st⟩ := Jvm.RoadKit.stC X C.1 C.2.2.2.2.2.2.2 eT A hj (g := mkF m pc L (.int x :: .int j :: .ref a :: St)) rfl rfl (hb C.2.1 hd)
  exact (kt h' W' p e s m args below meth c T' _ C X' (Fr.snoc X' N g) e').thru st
theorem stZ {a : Addr} {cl : Cell} {j : Int32} {x : Int32} (hd : decode bs pc = .ok (.bastore, 1)) (A : Arr Z h a cl .boolean) (hj : ¬ (j < 0 ∨ cl.slots.size ≤ j.toNatClampNeg)) (g : n0 ≤ a) (hp : pc + 1 = pc') (kt : ∀ h', Wr h h' a j.toNatClampNeg (.int (nar .boolean x)) → Go l Z R y bs ml ret n0 Q h' k n pc' L St) : Go l Z R y bs ml ret n0 Q h k n pc L (.int x :: .int j :: .ref a :: St) := by
  subst hp
  intro p e s m args below meth c T locs C X N eT
  obtain ⟨T', h', X', e', W', st⟩ := Jvm.RoadKit.stZ X C.1 C.2.2.2.2.2.2.2 eT A hj (g := mkF m pc L (.int x :: .int j :: .ref a :: St)) rfl rfl (hb C.2.1 hd)
  exact (kt h' W' p e s m args below meth c T' _ C X' (Fr.snoc X' N g) e').thru st
theorem stR {a : Addr} {cl : Cell} {ty : FieldType} {j : Int32} {v : Value} (hd : decode bs pc = .ok (.aastore, 1)) (A : Arr Z h a cl ty) (hj : ¬ (j < 0 ∨ cl.slots.size ≤ j.toNatClampNeg)) (hty : ty.isReference = true) (F : Sto Z h a v) (g : n0 ≤ a) (hp : pc + 1 = pc') (kt : ∀ h', Wr h h' a j.toNatClampNeg v → Go l Z R y bs ml ret n0 Q h' k n pc' L St) : Go l Z R y bs ml ret n0 Q h k n pc L (v :: .int j :: .ref a :: St) := by
  subst hp
  intro p e s m args below meth c T locs C X N eT
  obtain ⟨T', h', X', e', W', st⟩ := Jvm.RoadKit.stR X C.1 C.2.2.2.2.2.2.2 eT A hj hty F (g := mkF m pc L (v :: .int j :: .ref a :: St)) rfl rfl (hb C.2.1 hd)
  exact (kt h' W' p e s m args below meth c T' _ C X' (Fr.snoc X' N g) e').thru st
theorem iaload {a : Addr} {cl : Cell} {j : Int32} {v : Value} (hd : decode bs pc = .ok (.iaload, 1)) (A : Arr Z h a cl .int) (hj : ¬ (j < 0 ∨ cl.slots.size ≤ j.toNatClampNeg)) (hv : cl.slots[j.toNatClampNeg]? = some v) (hp : pc + 1 = pc') (kt : Go l Z R y bs ml ret n0 Q h k n pc' L (v :: St)) : Go l Z R y bs ml ret n0 Q h k n pc L (.int j :: .ref a :: St) := by
  subst hp
  intro p e s m args below meth c T locs C X N eT
  exact (kt p e s m args below meth c T locs C X N eT).thru fun t q => X.iaload C.1 (by rw [eT]; exact A.1) (State.isArrayOf_alike C.2.2.2.2.2.2.2.alike A.2.1) A.2.2 hj hv (g := mkF m pc L (.int j :: .ref a :: St)) rfl rfl (hb C.2.1 hd) _ q
theorem laload {a : Addr} {cl : Cell} {j : Int32} {v : Value} (hd : decode bs pc = .ok (.laload, 1)) (A : Arr Z h a cl .long) (hj : ¬ (j < 0 ∨ cl.slots.size ≤ j.toNatClampNeg)) (hv : cl.slots[j.toNatClampNeg]? = some v) (hp : pc + 1 = pc') (kt : Go l Z R y bs ml ret n0 Q h k n pc' L (v :: St)) : Go l Z R y bs ml ret n0 Q h k n pc L (.int j :: .ref a :: St) := by
  subst hp
  intro p e s m args below meth c T locs C X N eT
  exact (kt p e s m args below meth c T locs C X N eT).thru fun t q => X.laload C.1 (by rw [eT]; exact A.1) (State.isArrayOf_alike C.2.2.2.2.2.2.2.alike A.2.1) A.2.2 hj hv (g := mkF m pc L (.int j :: .ref a :: St)) rfl rfl (hb C.2.1 hd) _ q
theorem caload {a : Addr} {cl : Cell} {j : Int32} {v : Value} (hd : decode bs pc = .ok (.caload, 1)) (A : Arr Z h a cl .char) (hj : ¬ (j < 0 ∨ cl.slots.size ≤ j.toNatClampNeg)) (hv : cl.slots[j.toNatClampNeg]? = some v) (hp : pc + 1 = pc') (kt : Go l Z R y bs ml ret n0 Q h k n pc' L (v :: St)) : Go l Z R y bs ml ret n0 Q h k n pc L (.int j :: .ref a :: St) := by
  subst hp
  intro p e s m args below meth c T locs C X N eT
  exact (kt p e s m args below meth c T locs C X N eT).thru fun t q => X.caload C.1 (by rw [eT]; exact A.1) (State.isArrayOf_alike C.2.2.2.2.2.2.2.alike A.2.1) A.2.2 hj hv (g := mkF m pc L (.int j :: .ref a :: St)) rfl rfl (hb C.2.1 hd) _ q
theorem baload {a : Addr} {cl : Cell} {j : Int32} {v : Value} (hd : decode bs pc = .ok (.baload, 1)) (A : Arr Z h a cl .byte) (hj : ¬ (j < 0 ∨ cl.slots.size ≤ j.toNatClampNeg)) (hv : cl.slots[j.toNatClampNeg]? = some v) (hp : pc + 1 = pc') (kt : Go l Z R y bs ml ret n0 Q h k n pc' L (v :: St)) : Go l Z R y bs ml ret n0 Q h k n pc L (.int j :: .ref a :: St) := by
  subst hp
  intro p e s m args below meth c T locs C X N eT
  exact (kt p e s m args below meth c T locs C X N eT).thru fun t q => X.baloadBytes C.1 (by rw [eT]; exact A.1) (State.isArrayOf_alike C.2.2.2.2.2.2.2.alike A.2.1) A.2.2 hj hv (g := mkF m pc L (.int j :: .ref a :: St)) rfl rfl (hb C.2.1 hd) _ q
theorem aaload {a : Addr} {cl : Cell} {ty : FieldType} {j : Int32} {v : Value} (hd : decode bs pc = .ok (.aaload, 1)) (A : Arr Z h a cl ty) (hty : ty.isReference = true) (hj : ¬ (j < 0 ∨ cl.slots.size ≤ j.toNatClampNeg)) (hv : cl.slots[j.toNatClampNeg]? = some v) (hp : pc + 1 = pc') (kt : Go l Z R y bs ml ret n0 Q h k n pc' L (v :: St)) : Go l Z R y bs ml ret n0 Q h k n pc L (.int j :: .ref a :: St) := by
  subst hp
  intro p e s m args below meth c T locs C X N eT
  exact (kt p e s m args below meth c T locs C X N eT).thru fun t q => X.aaload C.1 (by rw [eT]; exact A.1) (State.isArrayOf_alike C.2.2.2.2.2.2.2.alike A.2.1) hty A.2.2 hj hv (g := mkF m pc L (.int j :: .ref a :: St)) rfl rfl (hb C.2.1 hd) _ q
theorem alen {a : Addr} {cl : Cell} {ty : FieldType} {x : Int32} (hd : decode bs pc = .ok (.arraylength, 1)) (A : Arr Z h a cl ty) (hx : cl.slots.size.toInt32 = x) (hp : pc + 1 = pc') (kt : Go l Z R y bs ml ret n0 Q h k n pc' L (.int x :: St)) : Go l Z R y bs ml ret n0 Q h k n pc L (.ref a :: St) := by
  subst hp hx
  intro p e s m args below meth c T locs C X N eT
  exact (kt p e s m args below meth c T locs C X N eT).thru fun t q => X.arraylength C.1 (by rw [eT]; exact A.1) (State.isArrayOf_alike C.2.2.2.2.2.2.2.alike A.2.1) (g := mkF m pc L (.ref a :: St)) rfl rfl (hb C.2.1 hd) _ q
theorem multi22 {index : Nat} {ty : FieldType} {cn : String} (hd : decode bs pc = .ok (.multianewarray index 2, 4)) (w1 : (Cond.classLink y.cls index cn).before a0 Z = true) (hcn : "[" ++ (FieldType.array ty).toString = cn) (w2 : (Cond.arrayOver (.array ty)).before a0 Z = true) (w3 : (Cond.arrayClass ty).before a0 Z = true) (hcb : componentBytes ty ≤ 8) (hdf : fits ty (defaultValue ty) = true) (hdd : (defaultValue ty).isDefault = true) (ek : k + 3 = k') (en : n + 6 = n') (hc : k' ≤ R.cells) (hl : n' ≤ R.slots) (hp : pc + 4 = pc')
    (kt : ∀ h' cA cI a, a = h.size → h'.size = h.size + 3 → Ext h h' → Arv Z h' a cA (.array ty) (2 : Int32) [.ref (a + 1), .ref (a + 2)] .null → Arv Z h' (a + 1) cI ty (2 : Int32) [defaultValue ty, defaultValue ty] (defaultValue ty) → Arv Z h' (a + 2) cI ty (2 : Int32) [defaultValue ty, defaultValue ty] (defaultValue ty) → Z.vm.findClass (FieldType.array ty).toString = some cI → Go l Z R y bs ml ret n0 Q h' k' n' pc' L (.ref a :: St)) : Go l Z R y bs ml ret n0 Q h k n pc L (.int (2 : Int32) :: .int (2 : Int32) :: St) := by
  subst hp ek en hcn
  intro p e s m args below meth c T locs C X N eT
  have hZ := C.2.2.2.2.2.2.2
  have hc2 : (2 : Int32).toNatClampNeg = 2 := by decide
  obtain ⟨vm₁, cA, cI, hW, hfA, hfC, hO, hI, X', st⟩ := X.multianewarray2F C.1 C.2.2.2.1 (mvT hZ w1) ((Cond.arrayOver_setVmC (args := a0) (s := Z) hZ.alike (.array ty)).trans w2) (mvA hZ w3) (g := mkF m pc L (.int (2 : Int32) :: .int (2 : Int32) :: St)) rfl (hb C.2.1 hd) (n := (2 : Int32)) (k := (2 : Int32)) (rest := St) rfl (by decide) (by decide) (by decide) (by rw [hc2]; omega) (by decide) hdf hdd (by rw [hc2]; omega) (by rw [hc2]; omega)
  rw [hc2] at X' st
  subst eT
  obtain ⟨f1, f2, -, -⟩ := Jvm.Free.Multi.fill_facts (T.setVm vm₁) cA cI 2 2 (defaultValue ty) 2
  obtain ⟨o1, o2, o3⟩ := Jvm.Free.Multi.outerC_facts cA 2 (T.setVm vm₁).heap.size 2
  have hsz : (T.setVm vm₁).heap.size = T.heap.size := rfl
  have al : s.vm.Alike Z.vm := hZ.alike.symm
  have EE : Ext T.heap (Jvm.Free.Multi.fill (T.setVm vm₁) cA cI 2 2 (defaultValue ty) 2).heap := ext_of fun a q => Jvm.Free.Multi.fill_old (T.setVm vm₁) cA cI 2 2 (defaultValue ty) q 2
  have inn : ∀ j, j < 2 → Arv Z (Jvm.Free.Multi.fill (T.setVm vm₁) cA cI 2 2 (defaultValue ty) 2).heap (T.heap.size + 1 + j) cI ty (2 : Int32) [defaultValue ty, defaultValue ty] (defaultValue ty) := fun j hj => by
    have hget := Jvm.Free.Multi.fill_inner (T.setVm vm₁) cA cI 2 2 (defaultValue ty) 2 j hj
    refine ⟨_, ⟨hget, State.isArrayOf_alike al (hI 2 (defaultValue ty)).1, (hI 2 (defaultValue ty)).2⟩, rfl, by simp [Jvm.Free.Multi.innerC, hc2], by decide, fun i hi => ?_, fun i hi => ?_⟩
    · simp only [Jvm.Free.Multi.innerC, Array.size_replicate] at hi ⊢
      match i, hi with
      | 0, _ => rfl
      | 1, _ => rfl
    · simp only [Jvm.Free.Multi.innerC, Array.size_replicate] at hi
      match i, hi with
      | 0, _ => exact hdf
      | 1, _ => exact hdf
  have hZc : Z.vm.findClass (FieldType.array ty).toString = some cI := by rw [← hZ.alike.findClass]; exact hfC
  refine (kt _ cA cI T.heap.size rfl f1 EE ?_ (inn 0 (by decide)) (inn 1 (by decide)) hZc p e s m args below meth c _ _ C X' N rfl).thru st
  refine ⟨_, ⟨f2, State.isArrayOf_alike al (hO 2 _ 2).1, (hO 2 _ 2).2⟩, o1, by rw [o3, hc2], by decide, fun i hi => ?_, fun i hi => ?_⟩
  · rw [o3] at hi
    rw [Jvm.Free.Multi.outerC_slot cA 2 _ 2 i hi, if_pos hi]
    match i, hi with
    | 0, _ => rfl
    | 1, _ => rfl
  · rw [o3] at hi
    match i, hi with
    | 0, _ => rfl
    | 1, _ => rfl
theorem castY {KK : String} {index : Nat} {a : Addr} (hd : decode bs pc = .ok (.checkcast index, 3)) (w : (Cond.classLink y.cls index KK).before a0 Z = true) (F : Ins Z h a KK true) (hp : pc + 3 = pc') (kt : Go l Z R y bs ml ret n0 Q h k n pc' L (.ref a :: St)) : Go l Z R y bs ml ret n0 Q h k n pc L (.ref a :: St) := by
  subst hp
  intro p e s m args below meth c T locs C X N eT
  obtain ⟨T', X', e', st⟩ := Jvm.RoadKit.castY X C.1 C.2.2.2.2.2.2.2 C.2.2.2.1 w eT F (g := mkF m pc L (.ref a :: St)) rfl rfl (hb C.2.1 hd)
  exact (kt p e s m args below meth c T' locs C X' N e').thru st
theorem instY {KK : String} {index : Nat} {a : Addr} (hd : decode bs pc = .ok (.instanceof index, 3)) (w : (Cond.classLink y.cls index KK).before a0 Z = true) (F : Ins Z h a KK true) (hp : pc + 3 = pc') (kt : Go l Z R y bs ml ret n0 Q h k n pc' L (.int 1 :: St)) : Go l Z R y bs ml ret n0 Q h k n pc L (.ref a :: St) := by
  subst hp
  intro p e s m args below meth c T locs C X N eT
  obtain ⟨T', X', e', st⟩ := Jvm.RoadKit.instY X C.1 C.2.2.2.2.2.2.2 C.2.2.2.1 w eT F (g := mkF m pc L (.ref a :: St)) rfl rfl (hb C.2.1 hd)
  exact (kt p e s m args below meth c T' locs C X' N e').thru st
theorem instNo {KK CC : String} {index : Nat} {a : Addr} (hd : decode bs pc = .ok (.instanceof index, 3)) (w : (Cond.classLink y.cls index KK).before a0 Z = true) (E : Exa Z h a CC) (F : ∃ c t, Z.vm.findClass CC = some c ∧ Z.vm.findClass KK = some t ∧ Z.vm.assignable c t = false) (hp : pc + 3 = pc') (kt : Go l Z R y bs ml ret n0 Q h k n pc' L (.int 0 :: St)) : Go l Z R y bs ml ret n0 Q h k n pc L (.ref a :: St) := by
  subst hp
  intro p e s m args below meth c T locs C X N eT
  obtain ⟨T', X', e', st⟩ := Jvm.RoadKit.instNo X C.1 C.2.2.2.2.2.2.2 C.2.2.2.1 w eT E F (g := mkF m pc L (.ref a :: St)) rfl rfl (hb C.2.1 hd)
  exact (kt p e s m args below meth c T' locs C X' N e').thru st
theorem instNull {index : Nat} (hd : decode bs pc = .ok (.instanceof index, 3)) (hp : pc + 3 = pc') (kt : Go l Z R y bs ml ret n0 Q h k n pc' L (.int 0 :: St)) : Go l Z R y bs ml ret n0 Q h k n pc L (.null :: St) := by
  subst hp
  intro p e s m args below meth c T locs C X N eT
  exact (kt p e s m args below meth c T locs C X N eT).thru (X.instanceofNull C.1 (g := mkF m pc L (.null :: St)) rfl rfl (hb C.2.1 hd))
theorem castNull {index : Nat} (hd : decode bs pc = .ok (.checkcast index, 3)) (hp : pc + 3 = pc') (kt : Go l Z R y bs ml ret n0 Q h k n pc' L (.null :: St)) : Go l Z R y bs ml ret n0 Q h k n pc L (.null :: St) := by
  subst hp
  intro p e s m args below meth c T locs C X N eT
  exact (kt p e s m args below meth c T locs C X N eT).thru (X.checkcastNull C.1 (g := mkF m pc L (.null :: St)) rfl rfl (hb C.2.1 hd))
theorem initO {index : Nat} {a : Addr} {W : Nat} (hd : decode bs pc = .ok (.invokespecial index, 3)) (w1 : (Cond.methodLink y.cls index Lib.objectInit).before a0 Z = true) (w2 : (Cond.instanceMethod Lib.objectInit).before a0 Z = true) (w3 : (Cond.code Lib.objectInit ⟨#[0xb1]⟩ 1 none).before a0 Z = true) (hsz : L.size = ml) (hf : 1 ≤ R.frames) (hW : (St.map fun v => v.category).sum ≤ W) (hl : W + 12 ≤ R.locals) (hp : pc + 3 = pc') (kt : Go l Z R y bs ml ret n0 Q h k n pc' L St) : Go l Z R y bs ml ret n0 Q h k n pc L (.ref a :: St) := by
  subst hp
  intro p e s m args below meth c T locs C X N eT
  obtain ⟨T', X', e', st⟩ := Jvm.RoadKit.initO X C.1 C.2.2.2.2.2.2.2 C.2.2.2.1 w1 w2 w3 eT (g := mkF m pc L (.ref a :: St)) rfl (by rw [C.2.2.1]; exact hsz) rfl (hb C.2.1 hd) hf (W := W) (by show 2 * 0 + _ ≤ _; omega) hl
  exact (kt p e s m args below meth c T' locs C X' N e').thru st
theorem callS {z : MethodName} {bz : ByteArray} {mz : Nat} {rz : Option FieldType} {rm : Room} {as' : Array Value} {Q' : Option Value → Heap → Prop} {W : Nat} {argsL rest : List Value} {ps : List FieldType} {rt : Option FieldType} {index : Nat} (hd : decode bs pc = .ok (.invokestatic index, 3)) (w1 : (Cond.methodLink y.cls index z).before a0 Z = true) (w2 : (Cond.static z).before a0 Z = true) (w3 : (Cond.initialized z.cls).before a0 Z = true) (w4 : (Cond.code z bz mz rz).before a0 Z = true) (hy : z.cls ≠ "java/lang/invoke/MethodHandle" ∧ z.cls ≠ "java/lang/invoke/VarHandle")
    (con : Con l Z rm z bz mz rz n0 as' h Q') (hf : rm.frames + 1 ≤ R.frames) (hl : W + (mz + 11) + rm.locals ≤ R.locals) (ek : k + rm.cells = k') (en : n + rm.slots = n') (hc : k' ≤ R.cells) (hn : n' ≤ R.slots) (hsz : L.size = ml) (pd : parseMethodDescriptor z.desc = some ⟨ps, rt⟩) (hlen : argsL.length = ps.length) (hst : St = argsL.reverse ++ rest) (has : as' = argsL.toArray) (hW : (rest.map fun v => v.category).sum ≤ W) (hp : pc + 3 = pc')
    (kt : ∀ h' v, Q' v h' → Go l Z R y bs ml ret n0 Q h' k' n' pc' L (v.toList ++ rest)) : Go l Z R y bs ml ret n0 Q h k n pc L St := by
  subst hp has ek en
  intro p e s m args below meth c T locs C X N eT
  have hZ := C.2.2.2.2.2.2.2
  obtain ⟨v, _, ⟨T', Lp, kp, np⟩, -, X', ⟨Lc, ⟨hQ, N'⟩, e1, e2, e3⟩, st⟩ := Jvm.LawKit.callS X C.1 (y := z) C.2.2.2.1 (mvT hZ w1) (mvT hZ w2) (mvT hZ w3) (mvT hZ w4) hy (backOf (W := W) (Q := fun v h' L => Q' v h' ∧ Fr n0 L) (con []) hZ w4 w3 hf hl) (g := mkF m pc L St) rfl (by rw [C.2.2.1]; exact hsz) (argsL := argsL) (rest := rest) (lenOf pd hlen) hst (by show 2 * 0 + _ ≤ _; omega) (hb C.2.1 hd) (fun _ _ => ⟨rfl, eT, hc, hn⟩)
  dsimp only [Pt.U, Pt.locs, Pt.cells, Pt.slots] at X' e1 e2 e3 st hQ
  subst e1 e2 e3
  exact (kt T'.heap v hQ p e s m args below meth c T' _ C X' (Fr.app N N') rfl).thru st
theorem callI {z : MethodName} {bz : ByteArray} {mz : Nat} {rm : Room} {as' : Array Value} {Q' : Option Value → Heap → Prop} {W : Nat} {argsL rest : List Value} {ps : List FieldType} {rt : Option FieldType} {index : Nat} {a : Addr} (hd : decode bs pc = .ok (.invokespecial index, 3)) (hi : z.name = "<init>") (w1 : (Cond.methodLink y.cls index z).before a0 Z = true) (w2 : (Cond.instanceMethod z).before a0 Z = true) (w3 : (Cond.initialized z.cls).before a0 Z = true) (w4 : (Cond.code z bz mz none).before a0 Z = true) (hy : z.cls ≠ "java/lang/invoke/MethodHandle" ∧ z.cls ≠ "java/lang/invoke/VarHandle")
    (con : Con l Z rm z bz mz none n0 as' h Q') (hf : rm.frames + 1 ≤ R.frames) (hl : W + (mz + 11) + rm.locals ≤ R.locals) (ek : k + rm.cells = k') (en : n + rm.slots = n') (hc : k' ≤ R.cells) (hn : n' ≤ R.slots) (hsz : L.size = ml) (pd : parseMethodDescriptor z.desc = some ⟨ps, rt⟩) (hlen : argsL.length = ps.length) (hst : St = argsL.reverse ++ .ref a :: rest) (has : as' = (.ref a :: argsL).toArray) (hW : (rest.map fun v => v.category).sum ≤ W) (hp : pc + 3 = pc')
    (kt : ∀ h' v, Q' v h' → Go l Z R y bs ml ret n0 Q h' k' n' pc' L (v.toList ++ rest)) : Go l Z R y bs ml ret n0 Q h k n pc L St := by
  subst hp has ek en
  intro p e s m args below meth c T locs C X N eT
  have hZ := C.2.2.2.2.2.2.2
  obtain ⟨v, _, ⟨T', Lp, kp, np⟩, -, X', ⟨Lc, ⟨hQ, N'⟩, e1, e2, e3⟩, st⟩ := X.specialBack C.1 (y := z) hi C.2.2.2.1 (mvT hZ w1) (mvT hZ w2) (mvT hZ w4) hy (backOf (W := W) (Q := fun v h' L => Q' v h' ∧ Fr n0 L) (con []) hZ w4 w3 hf hl) (g := mkF m pc L St) rfl (by rw [C.2.2.1]; exact hsz) (Steps.refl _) (a := a) (argsL := argsL) (rest := rest) (lenOf pd hlen) hst (by show 2 * 0 + _ ≤ _; omega) (hb C.2.1 hd) (fun _ _ => ⟨rfl, eT, hc, hn⟩)
  dsimp only [Pt.U, Pt.locs, Pt.cells, Pt.slots] at X' e1 e2 e3 st hQ
  subst e1 e2 e3
  exact (kt T'.heap v hQ p e s m args below meth c T' _ C X' (Fr.app N N') rfl).thru fun t q => st.trans q
theorem callV {z : MethodName} {bz : ByteArray} {mz : Nat} {rz : Option FieldType} {rm : Room} {as' : Array Value} {Q' : Option Value → Heap → Prop} {W : Nat} {argsL rest : List Value} {ps : List FieldType} {rt : Option FieldType} {index : Nat} {CC : String} {a : Addr} (hd : decode bs pc = .ok (.invokevirtual index, 3)) (w1 : (Cond.methodLink y.cls index z).before a0 Z = true) (w2 : (Cond.declares z).before a0 Z = true) (ws : (Cond.selects CC z z).before a0 Z = true) (wi : (Cond.instanceMethod z).before a0 Z = true) (w3 : (Cond.initialized z.cls).before a0 Z = true) (w4 : (Cond.code z bz mz rz).before a0 Z = true) (hy : z.cls ≠ "java/lang/invoke/MethodHandle" ∧ z.cls ≠ "java/lang/invoke/VarHandle") (E : Exa Z h a CC)
    (con : Con l Z rm z bz mz rz n0 as' h Q') (hf : rm.frames + 1 ≤ R.frames) (hl : W + (mz + 11) + rm.locals ≤ R.locals) (ek : k + rm.cells = k') (en : n + rm.slots = n') (hc : k' ≤ R.cells) (hn : n' ≤ R.slots) (hsz : L.size = ml) (pd : parseMethodDescriptor z.desc = some ⟨ps, rt⟩) (hlen : argsL.length = ps.length) (hst : St = argsL.reverse ++ .ref a :: rest) (has : as' = (.ref a :: argsL).toArray) (hW : (rest.map fun v => v.category).sum ≤ W) (hp : pc + 3 = pc')
    (kt : ∀ h' v, Q' v h' → Go l Z R y bs ml ret n0 Q h' k' n' pc' L (v.toList ++ rest)) : Go l Z R y bs ml ret n0 Q h k n pc L St := by
  subst hp has ek en
  intro p e s m args below meth c T locs C X N eT
  have hZ := C.2.2.2.2.2.2.2
  obtain ⟨cq, kq, qa, qb, qc⟩ := isOf hZ eT E
  obtain ⟨v, _, ⟨T', Lp, kp, np⟩, -, X', ⟨Lc, ⟨hQ, N'⟩, e1, e2, e3⟩, st⟩ := X.virtualBack C.1 (y := z) (z := z) C.2.2.2.1 (mvT hZ w1) (mvT hZ w2) (notFace_of_selects (args := #[]) (mvT hZ ws)) (mvT hZ ws) (mvT hZ wi) hy (backOf (W := W) (Q := fun v h' L => Q' v h' ∧ Fr n0 L) (con []) hZ w4 w3 hf hl) qa qc (g := mkF m pc L St) rfl (by rw [C.2.2.1]; exact hsz) (Steps.refl _) (argsL := argsL) (rest := rest) (lenOf pd hlen) hst (by show 2 * 0 + _ ≤ _; omega) (hb C.2.1 hd) (fun _ _ => ⟨rfl, eT, hc, hn⟩)
  dsimp only [Pt.U, Pt.locs, Pt.cells, Pt.slots] at X' e1 e2 e3 st hQ
  subst e1 e2 e3
  exact (kt T'.heap v hQ p e s m args below meth c T' _ C X' (Fr.app N N') rfl).thru fun t q => st.trans q
theorem callVF {z : MethodName} {bz : ByteArray} {mz : Nat} {rz : Option FieldType} {rm : Room} {as' : Array Value} {Q' : Option Value → Heap → Prop} {W : Nat} {argsL rest : List Value} {ps : List FieldType} {rt : Option FieldType} {index cnt : Nat} {x' : MethodName} {CC : String} {a : Addr} (hd : decode bs pc = .ok (.invokeinterface index cnt, 5)) (w1 : (Cond.methodLink y.cls index x').before a0 Z = true) (w2 : (Cond.declares x').before a0 Z = true) (wf : (Cond.interfaceMethod x'.cls x'.cls x'.name x'.desc).before a0 Z = true) (ws : (Cond.selects CC x' z).before a0 Z = true) (wi : (Cond.instanceMethod z).before a0 Z = true) (wp : (Cond.publicMethod z).before a0 Z = true) (wu : (Cond.unhidden CC x'.name x'.desc).before a0 Z = true) (wc : (Cond.castable CC x'.cls).before a0 Z = true) (w3 : (Cond.initialized z.cls).before a0 Z = true) (w4 : (Cond.code z bz mz rz).before a0 Z = true) (hy : x'.cls ≠ "java/lang/invoke/MethodHandle" ∧ x'.cls ≠ "java/lang/invoke/VarHandle") (E : Exa Z h a CC)
    (con : Con l Z rm z bz mz rz n0 as' h Q') (hf : rm.frames + 1 ≤ R.frames) (hl : W + (mz + 11) + rm.locals ≤ R.locals) (ek : k + rm.cells = k') (en : n + rm.slots = n') (hc : k' ≤ R.cells) (hn : n' ≤ R.slots) (hsz : L.size = ml) (pd : parseMethodDescriptor x'.desc = some ⟨ps, rt⟩) (hlen : argsL.length = ps.length) (hst : St = argsL.reverse ++ .ref a :: rest) (has : as' = (.ref a :: argsL).toArray) (hW : (rest.map fun v => v.category).sum ≤ W) (hp : pc + 5 = pc')
    (kt : ∀ h' v, Q' v h' → Go l Z R y bs ml ret n0 Q h' k' n' pc' L (v.toList ++ rest)) : Go l Z R y bs ml ret n0 Q h k n pc L St := by
  subst hp has ek en
  intro p e s m args below meth c T locs C X N eT
  have hZ := C.2.2.2.2.2.2.2
  obtain ⟨cq, kq, qa, qb, qc⟩ := isOf hZ eT E
  obtain ⟨v, _, ⟨T', Lp, kp, np⟩, -, X', ⟨Lc, ⟨hQ, N'⟩, e1, e2, e3⟩, st⟩ := X.interfaceBack C.1 (xi := x') (y := z) C.2.2.2.1 (mvT hZ w1) (mvT hZ w2) (mvT hZ wf (by have g1 := hy.1; have g2 := hy.2; simp [Cond.onTables, Cond.keepsFace, Cond.keeps, Cond.steady, Cond.faceAtom, g1, g2])) (mvT hZ ws) (mvT hZ wi) (mvT hZ wp) (mvT hZ wu) (mvT hZ wc) hy (backOf (W := W) (Q := fun v h' L => Q' v h' ∧ Fr n0 L) (con []) hZ w4 w3 hf hl) qa qb qc (g := mkF m pc L St) rfl (by rw [C.2.2.1]; exact hsz) (Steps.refl _) (argsL := argsL) (rest := rest) (lenOf pd hlen) hst (by show 2 * 0 + _ ≤ _; omega) (hb C.2.1 hd) (fun _ _ => ⟨rfl, eT, hc, hn⟩)
  dsimp only [Pt.U, Pt.locs, Pt.cells, Pt.slots] at X' e1 e2 e3 st hQ
  subst e1 e2 e3
  exact (kt T'.heap v hQ p e s m args below meth c T' _ C X' (Fr.app N N') rfl).thru fun t q => st.trans q
theorem callP {z : MethodName} {bz : ByteArray} {mz : Nat} {rz : Option FieldType} {rm : Room} {as' : Array Value} {Q' : Option Value → Heap → Prop} {W : Nat} {argsL rest : List Value} {ps : List FieldType} {rt : Option FieldType} {index : Nat} {a : Addr} {CC : String} (hd : decode bs pc = .ok (.invokevirtual index, 3)) (w1 : (Cond.methodLink y.cls index z).before a0 Z = true) (wi : (Cond.instanceMethod z).before a0 Z = true) {nn : Nat} (win : (Cond.instantiable z.cls nn).before a0 Z = true) (wp : (Cond.privateMethod z).before a0 Z = true) (w3 : (Cond.initialized z.cls).before a0 Z = true) (w4 : (Cond.code z bz mz rz).before a0 Z = true) (hy : z.cls ≠ "java/lang/invoke/MethodHandle" ∧ z.cls ≠ "java/lang/invoke/VarHandle") (E : Exa Z h a CC)
    (con : Con l Z rm z bz mz rz n0 as' h Q') (hf : rm.frames + 1 ≤ R.frames) (hl : W + (mz + 11) + rm.locals ≤ R.locals) (ek : k + rm.cells = k') (en : n + rm.slots = n') (hc : k' ≤ R.cells) (hn : n' ≤ R.slots) (hsz : L.size = ml) (pd : parseMethodDescriptor z.desc = some ⟨ps, rt⟩) (hlen : argsL.length = ps.length) (hst : St = argsL.reverse ++ .ref a :: rest) (has : as' = (.ref a :: argsL).toArray) (hW : (rest.map fun v => v.category).sum ≤ W) (hp : pc + 3 = pc')
    (kt : ∀ h' v, Q' v h' → Go l Z R y bs ml ret n0 Q h' k' n' pc' L (v.toList ++ rest)) : Go l Z R y bs ml ret n0 Q h k n pc L St := by
  subst hp has ek en
  intro p e s m args below meth c T locs C X N eT
  have hZ := C.2.2.2.2.2.2.2
  have ws : (Cond.selects z.cls z z).before a0 Z = true := by
    obtain ⟨t, kt, g1, g2, g3, g4, -, -⟩ := Cond.instantiable_spec win
    exact selects_self_of_private g1 g2 (Bool.or_eq_false_iff.mp g4).1 (Cond.privateMethod_at wp) wi hy
  obtain ⟨cq, qa, qb⟩ := E.cell
  obtain ⟨v, _, ⟨T', Lp, kp, np⟩, -, X', ⟨Lc, ⟨hQ, N'⟩, e1, e2, e3⟩, st⟩ := X.privateBack C.1 (y := z) C.2.2.2.1 (mvT hZ w1) (mvT hZ wi) (mvT hZ ws) (Cond.privateMethod_at (mvP hZ wp (args := #[]))) (mvT hZ w4) hy (backOf (W := W) (Q := fun v h' L => Q' v h' ∧ Fr n0 L) (con []) hZ w4 w3 hf hl) (g := mkF m pc L St) rfl (by rw [C.2.2.1]; exact hsz) (Steps.refl _) (a := a) (by rw [eT]; exact qa) qb (argsL := argsL) (rest := rest) (lenOf pd hlen) hst (by show 2 * 0 + _ ≤ _; omega) (hb C.2.1 hd) (fun _ _ => ⟨rfl, eT, hc, hn⟩)
  dsimp only [Pt.U, Pt.locs, Pt.cells, Pt.slots] at X' e1 e2 e3 st hQ
  subst e1 e2 e3
  exact (kt T'.heap v hQ p e s m args below meth c T' _ C X' (Fr.app N N') rfl).thru fun t q => st.trans q
theorem gcls {CC : String} {index : Nat} {a mr : Addr} {W : Nat} (hd : decode bs pc = .ok (.invokevirtual index, 3)) (w1 : (Cond.methodLink y.cls index ⟨"java/lang/Object", "getClass", "()Ljava/lang/Class;"⟩).before a0 Z = true) (w2 : (Cond.declares ⟨"java/lang/Object", "getClass", "()Ljava/lang/Class;"⟩).before a0 Z = true) (w3 : (Cond.noSuperclass "java/lang/Object").before a0 Z = true) (w4 : (Cond.selects CC ⟨"java/lang/Object", "getClass", "()Ljava/lang/Class;"⟩ ⟨"java/lang/Object", "getClass", "()Ljava/lang/Class;"⟩).before a0 Z = true)
    (w5 : (Cond.instanceMethod ⟨"java/lang/Object", "getClass", "()Ljava/lang/Class;"⟩).before a0 Z = true) (w6 : (Cond.native ⟨"java/lang/Object", "getClass", "()Ljava/lang/Class;"⟩).before a0 Z = true) (E : Exa Z h a CC) (M : Mir Z CC mr) (hsz : L.size = ml) (hf : 1 ≤ R.frames) (hW : (St.map fun v => v.category).sum ≤ W) (hl : W + (nativeFrameWords "java/lang/Object" "getClass" 1 + 11) ≤ R.locals) (hp : pc + 3 = pc') (kt : Go l Z R y bs ml ret n0 Q h k n pc' L (.ref mr :: St)) : Go l Z R y bs ml ret n0 Q h k n pc L (.ref a :: St) := by
  subst hp
  intro p e s m args below meth c T locs C X N eT
  obtain ⟨T', X', e', st⟩ := Jvm.RoadKit.gcls X C.1 C.2.2.2.2.2.2.2 C.2.2.2.1 w1 w2 w3 w4 w5 w6 eT E M (g := mkF m pc L (.ref a :: St)) rfl (by rw [C.2.2.1]; exact hsz) rfl (hb C.2.1 hd) hf (W := W) (by show 2 * 0 + _ ≤ _; omega) hl
  exact (kt p e s m args below meth c T' locs C X' N e').thru st
theorem cpA {index : Nat} {a b : Addr} {ka kb : ClassId} {ty ty' : FieldType} {z z' sp dp nn : Int32} {vs vd us : List Value} {dv dd : Value} {W : Nat} (hd : decode bs pc = .ok (.invokestatic index, 3)) (w1 : (Cond.methodLink y.cls index Jvm.Stand.acN).before a0 Z = true) (w2 : (Cond.native Jvm.Stand.acN).before a0 Z = true) (w3 : (Cond.static Jvm.Stand.acN).before a0 Z = true) (w4 : (Cond.initialized "java/lang/System").before a0 Z = true)
    (A : Arv Z h a ka ty z vs dv) (B : Arv Z h b kb ty' z' vd dd) (hty : (ty = ty' ∧ refKind ty = false) ∨ (refKind ty = true ∧ refKind ty' = true ∧ StoL Z h b us)) (h1 : ¬ sp < 0) (h2 : ¬ dp < 0) (h3 : ¬ nn < 0) (h4 : sp.toNatClampNeg + nn.toNatClampNeg ≤ z.toNatClampNeg) (h5 : dp.toNatClampNeg + nn.toNatClampNeg ≤ z'.toNatClampNeg)
    (hus : us = (List.range nn.toNatClampNeg).map fun i => vs.getD (sp.toNatClampNeg + i) dv) (hlv : dp.toNatClampNeg + nn.toNatClampNeg ≤ vd.length) (ge : n0 ≤ b) (hsz : L.size = ml) (hf : 1 ≤ R.frames) (hW : (St.map fun v => v.category).sum ≤ W) (hlo : W + (nativeFrameWords "java/lang/System" "arraycopy" 5 + 11) ≤ R.locals) (hp : pc + 3 = pc')
    (kt : ∀ h', Keep h h' [b] → Arv Z h' b kb ty' z' (vd.take dp.toNatClampNeg ++ us ++ vd.drop (dp.toNatClampNeg + nn.toNatClampNeg)) dd → Go l Z R y bs ml ret n0 Q h' k n pc' L St) : Go l Z R y bs ml ret n0 Q h k n pc L (.int nn :: .int dp :: .ref b :: .int sp :: .ref a :: St) := by
  subst hp
  intro p e s m args below meth c T locs C X N eT
  obtain ⟨T', h', Ls, X', e', N', K', V', st⟩ := Jvm.RoadKit.cpA X C.1 C.2.2.2.2.2.2.2 C.2.2.2.1 w1 w2 w3 w4 eT A B hty h1 h2 h3 h4 h5 hus hlv N ge (g := mkF m pc L (.int nn :: .int dp :: .ref b :: .int sp :: .ref a :: St)) rfl (by rw [C.2.2.1]; exact hsz) rfl (hb C.2.1 hd) hf (W := W) (by show 2 * 0 + _ ≤ _; omega) hlo
  exact (kt h' K' V' p e s m args below meth c T' Ls C X' N' e').thru st
theorem newRE {CC ad : String} {index : Nat} {x : Int32} {cap : Nat} (hd : decode bs pc = .ok (.anewarray index, 3)) (w1 : (Cond.classLink y.cls index CC).before a0 Z = true) (w2 : (Cond.arrayOver (.object CC)).before a0 Z = true) (hn : ¬ x < 0) (hcap : x.toNatClampNeg ≤ cap) (hb' : cap * 8 ≤ 536870912) (ek : k + 1 = k') (en : n + cap = n') (hc : k' ≤ R.cells) (hl : n' ≤ R.slots) (had : "[" ++ (FieldType.object CC).toString = ad) (hp : pc + 3 = pc')
    (kt : ∀ h' cA a, a = h.size → Ext h h' → Arr Z h' a (newA cA (.object CC) x) (.object CC) → Ovr Z cA CC → Exa Z h' a ad → Go l Z R y bs ml ret n0 Q h' k' n' pc' L (.ref a :: St)) : Go l Z R y bs ml ret n0 Q h k n pc L (.int x :: St) := by
  subst hp ek en
  intro p e s m args below meth c T locs C X N eT
  obtain ⟨T', h', cA, X', e', E, A, Ex, O, st⟩ := Jvm.RoadKit.newRE X C.1 C.2.2.2.2.2.2.2 C.2.2.2.1 w1 w2 eT (g := mkF m pc L (.int x :: St)) rfl (hb C.2.1 hd) rfl hn hcap hb' hc hl had
  exact (kt h' cA _ rfl E A O Ex p e s m args below meth c T' _ C X' N e').thru st
theorem callS0 {z : MethodName} {bz : ByteArray} {mz : Nat} {rz : Option FieldType} {rm : Room} {as' : Array Value} {r : Option Value} {St' : List Value} {W : Nat} {argsL rest : List Value} {ps : List FieldType} {rt : Option FieldType} {index : Nat} (hd : decode bs pc = .ok (.invokestatic index, 3)) (w1 : (Cond.methodLink y.cls index z).before a0 Z = true) (w2 : (Cond.static z).before a0 Z = true) (w3 : (Cond.initialized z.cls).before a0 Z = true) (w4 : (Cond.code z bz mz rz).before a0 Z = true) (hy : z.cls ≠ "java/lang/invoke/MethodHandle" ∧ z.cls ≠ "java/lang/invoke/VarHandle")
    (con : Con l Z rm z bz mz rz n0 as' h (Ret r h)) (hf : rm.frames + 1 ≤ R.frames) (hl : W + (mz + 11) + rm.locals ≤ R.locals) (ek : k + rm.cells = k') (en : n + rm.slots = n') (hc : k' ≤ R.cells) (hn : n' ≤ R.slots) (hsz : L.size = ml) (pd : parseMethodDescriptor z.desc = some ⟨ps, rt⟩) (hlen : argsL.length = ps.length) (hst : St = argsL.reverse ++ rest) (has : as' = argsL.toArray) (hW : (rest.map fun v => v.category).sum ≤ W) (hs : r.toList ++ rest = St') (hp : pc + 3 = pc')
    (kt : Go l Z R y bs ml ret n0 Q h k' n' pc' L St') : Go l Z R y bs ml ret n0 Q h k n pc L St := by
  subst hs
  refine callS hd w1 w2 w3 w4 hy con hf hl ek en hc hn hsz pd hlen hst has hW hp ?_
  rintro h' v ⟨rfl, rfl⟩
  exact kt
theorem callI0 {z : MethodName} {bz : ByteArray} {mz : Nat} {rm : Room} {as' : Array Value} {r : Option Value} {St' : List Value} {W : Nat} {argsL rest : List Value} {ps : List FieldType} {rt : Option FieldType} {index : Nat} {a : Addr} (hd : decode bs pc = .ok (.invokespecial index, 3)) (hi : z.name = "<init>") (w1 : (Cond.methodLink y.cls index z).before a0 Z = true) (w2 : (Cond.instanceMethod z).before a0 Z = true) (w3 : (Cond.initialized z.cls).before a0 Z = true) (w4 : (Cond.code z bz mz none).before a0 Z = true) (hy : z.cls ≠ "java/lang/invoke/MethodHandle" ∧ z.cls ≠ "java/lang/invoke/VarHandle")
    (con : Con l Z rm z bz mz none n0 as' h (Ret r h)) (hf : rm.frames + 1 ≤ R.frames) (hl : W + (mz + 11) + rm.locals ≤ R.locals) (ek : k + rm.cells = k') (en : n + rm.slots = n') (hc : k' ≤ R.cells) (hn : n' ≤ R.slots) (hsz : L.size = ml) (pd : parseMethodDescriptor z.desc = some ⟨ps, rt⟩) (hlen : argsL.length = ps.length) (hst : St = argsL.reverse ++ .ref a :: rest) (has : as' = (.ref a :: argsL).toArray) (hW : (rest.map fun v => v.category).sum ≤ W) (hs : r.toList ++ rest = St') (hp : pc + 3 = pc')
    (kt : Go l Z R y bs ml ret n0 Q h k' n' pc' L St') : Go l Z R y bs ml ret n0 Q h k n pc L St := by
  subst hs
  refine callI hd hi w1 w2 w3 w4 hy con hf hl ek en hc hn hsz pd hlen hst has hW hp ?_
  rintro h' v ⟨rfl, rfl⟩
  exact kt
theorem callV0 {z : MethodName} {bz : ByteArray} {mz : Nat} {rz : Option FieldType} {rm : Room} {as' : Array Value} {r : Option Value} {St' : List Value} {W : Nat} {argsL rest : List Value} {ps : List FieldType} {rt : Option FieldType} {index : Nat} {CC : String} {a : Addr} (hd : decode bs pc = .ok (.invokevirtual index, 3)) (w1 : (Cond.methodLink y.cls index z).before a0 Z = true) (w2 : (Cond.declares z).before a0 Z = true) (ws : (Cond.selects CC z z).before a0 Z = true) (wi : (Cond.instanceMethod z).before a0 Z = true) (w3 : (Cond.initialized z.cls).before a0 Z = true) (w4 : (Cond.code z bz mz rz).before a0 Z = true) (hy : z.cls ≠ "java/lang/invoke/MethodHandle" ∧ z.cls ≠ "java/lang/invoke/VarHandle") (E : Exa Z h a CC)
    (con : Con l Z rm z bz mz rz n0 as' h (Ret r h)) (hf : rm.frames + 1 ≤ R.frames) (hl : W + (mz + 11) + rm.locals ≤ R.locals) (ek : k + rm.cells = k') (en : n + rm.slots = n') (hc : k' ≤ R.cells) (hn : n' ≤ R.slots) (hsz : L.size = ml) (pd : parseMethodDescriptor z.desc = some ⟨ps, rt⟩) (hlen : argsL.length = ps.length) (hst : St = argsL.reverse ++ .ref a :: rest) (has : as' = (.ref a :: argsL).toArray) (hW : (rest.map fun v => v.category).sum ≤ W) (hs : r.toList ++ rest = St') (hp : pc + 3 = pc')
    (kt : Go l Z R y bs ml ret n0 Q h k' n' pc' L St') : Go l Z R y bs ml ret n0 Q h k n pc L St := by
  subst hs
  refine callV hd w1 w2 ws wi w3 w4 hy E con hf hl ek en hc hn hsz pd hlen hst has hW hp ?_
  rintro h' v ⟨rfl, rfl⟩
  exact kt
theorem callVF0 {z : MethodName} {bz : ByteArray} {mz : Nat} {rz : Option FieldType} {rm : Room} {as' : Array Value} {r : Option Value} {St' : List Value} {W : Nat} {argsL rest : List Value} {ps : List FieldType} {rt : Option FieldType} {index cnt : Nat} {x' : MethodName} {CC : String} {a : Addr} (hd : decode bs pc = .ok (.invokeinterface index cnt, 5)) (w1 : (Cond.methodLink y.cls index x').before a0 Z = true) (w2 : (Cond.declares x').before a0 Z = true) (wf : (Cond.interfaceMethod x'.cls x'.cls x'.name x'.desc).before a0 Z = true) (ws : (Cond.selects CC x' z).before a0 Z = true) (wi : (Cond.instanceMethod z).before a0 Z = true) (wp : (Cond.publicMethod z).before a0 Z = true) (wu : (Cond.unhidden CC x'.name x'.desc).before a0 Z = true) (wc : (Cond.castable CC x'.cls).before a0 Z = true) (w3 : (Cond.initialized z.cls).before a0 Z = true) (w4 : (Cond.code z bz mz rz).before a0 Z = true) (hy : x'.cls ≠ "java/lang/invoke/MethodHandle" ∧ x'.cls ≠ "java/lang/invoke/VarHandle") (E : Exa Z h a CC)
    (con : Con l Z rm z bz mz rz n0 as' h (Ret r h)) (hf : rm.frames + 1 ≤ R.frames) (hl : W + (mz + 11) + rm.locals ≤ R.locals) (ek : k + rm.cells = k') (en : n + rm.slots = n') (hc : k' ≤ R.cells) (hn : n' ≤ R.slots) (hsz : L.size = ml) (pd : parseMethodDescriptor x'.desc = some ⟨ps, rt⟩) (hlen : argsL.length = ps.length) (hst : St = argsL.reverse ++ .ref a :: rest) (has : as' = (.ref a :: argsL).toArray) (hW : (rest.map fun v => v.category).sum ≤ W) (hs : r.toList ++ rest = St') (hp : pc + 5 = pc')
    (kt : Go l Z R y bs ml ret n0 Q h k' n' pc' L St') : Go l Z R y bs ml ret n0 Q h k n pc L St := by
  subst hs
  refine callVF hd w1 w2 wf ws wi wp wu wc w3 w4 hy E con hf hl ek en hc hn hsz pd hlen hst has hW hp ?_
  rintro h' v ⟨rfl, rfl⟩
  exact kt
end Laws
end Jvm.OwnW
namespace Jvm.OwnW
open Sem ClassFile Op Lib Jvm.Stand Jvm.Free Jvm.LawKit Jvm.RoadKit
section Dbl
variable {l : Launch} {Z : State} {R : Room} {y : MethodName} {bs : ByteArray} {ml : Nat} {ret : Option FieldType} {n0 : Nat} {Q : Option Value → Heap → Prop} {h : Heap} {k n : Nat} {k' n' : Nat} {pc pc' : Nat} {L L' : Array Slot} {St : List Value} {a0 : Array Value}
theorem dload {i : Nat} {v : UInt64} (hd : decode bs pc = .ok (.dload i, 2)) (hl : L[i]? = some (.val (.double v))) (hp : pc + 2 = pc') (kt : Go l Z R y bs ml ret n0 Q h k n pc' L (.double v :: St)) : Go l Z R y bs ml ret n0 Q h k n pc L St := by
  subst hp
  intro p e s m args below meth c T locs C X N eT
  exact (kt p e s m args below meth c T locs C X N eT).thru fun t q => XS.dload X.here C.1 rfl (hb C.2.1 hd) hl q
theorem dloadN {i : Fin 4} {v : UInt64} (hd : decode bs pc = .ok (.dload_n i, 1)) (hl : L[i.val]? = some (.val (.double v))) (hp : pc + 1 = pc') (kt : Go l Z R y bs ml ret n0 Q h k n pc' L (.double v :: St)) : Go l Z R y bs ml ret n0 Q h k n pc L St := by
  subst hp
  intro p e s m args below meth c T locs C X N eT
  exact (kt p e s m args below meth c T locs C X N eT).thru fun t q => XS.dloadN X.here C.1 rfl (hb C.2.1 hd) hl q
theorem dstore {i : Nat} {v : UInt64} (hd : decode bs pc = .ok (.dstore i, 2)) (hl : storeLocals L i (.double v) = some L') (hp : pc + 2 = pc') (kt : Go l Z R y bs ml ret n0 Q h k n pc' L' St) : Go l Z R y bs ml ret n0 Q h k n pc L (.double v :: St) := by
  subst hp
  intro p e s m args below meth c T locs C X N eT
  exact (kt p e s m args below meth c T locs C X N eT).thru fun t q => XS.dstore X.here C.1 rfl (hb C.2.1 hd) rfl hl q
theorem dstoreN {i : Fin 4} {v : UInt64} (hd : decode bs pc = .ok (.dstore_n i, 1)) (hl : storeLocals L i.val (.double v) = some L') (hp : pc + 1 = pc') (kt : Go l Z R y bs ml ret n0 Q h k n pc' L' St) : Go l Z R y bs ml ret n0 Q h k n pc L (.double v :: St) := by
  subst hp
  intro p e s m args below meth c T locs C X N eT
  exact (kt p e s m args below meth c T locs C X N eT).thru fun t q => XS.dstoreN X.here C.1 rfl (hb C.2.1 hd) rfl hl q
theorem dconst0 {v : UInt64} (hd : decode bs pc = .ok (.dconst 0, 1)) (hv : FP.dconst0 = v) (hp : pc + 1 = pc') (kt : Go l Z R y bs ml ret n0 Q h k n pc' L (.double v :: St)) : Go l Z R y bs ml ret n0 Q h k n pc L St := by
  subst hp
  intro p e s m args below meth c T locs C X N eT
  exact (kt p e s m args below meth c T locs C X N eT).thru fun t q => XS.dconst0 X.here C.1 rfl (hb C.2.1 hd) hv q
theorem dconst1 {v : UInt64} (hd : decode bs pc = .ok (.dconst 1, 1)) (hv : FP.dconst1 = v) (hp : pc + 1 = pc') (kt : Go l Z R y bs ml ret n0 Q h k n pc' L (.double v :: St)) : Go l Z R y bs ml ret n0 Q h k n pc L St := by
  subst hp
  intro p e s m args below meth c T locs C X N eT
  exact (kt p e s m args below meth c T locs C X N eT).thru fun t q => XS.dconst1 X.here C.1 rfl (hb C.2.1 hd) hv q
theorem i2d {x : Int32} {v : UInt64} (hd : decode bs pc = .ok (.i2d, 1)) (hv : FP.i2d x = v) (hp : pc + 1 = pc') (kt : Go l Z R y bs ml ret n0 Q h k n pc' L (.double v :: St)) : Go l Z R y bs ml ret n0 Q h k n pc L (.int x :: St) := by
  subst hp
  intro p e s m args below meth c T locs C X N eT
  exact (kt p e s m args below meth c T locs C X N eT).thru fun t q => XS.i2dS X.here C.1 rfl (hb C.2.1 hd) rfl hv q
theorem l2d {x : Int64} {v : UInt64} (hd : decode bs pc = .ok (.l2d, 1)) (hv : FP.l2d x = v) (hp : pc + 1 = pc') (kt : Go l Z R y bs ml ret n0 Q h k n pc' L (.double v :: St)) : Go l Z R y bs ml ret n0 Q h k n pc L (.long x :: St) := by
  subst hp
  intro p e s m args below meth c T locs C X N eT
  exact (kt p e s m args below meth c T locs C X N eT).thru fun t q => XS.l2dS X.here C.1 rfl (hb C.2.1 hd) rfl hv q
theorem dcmp {o : CmpOp} {x z : UInt64} {v : Int32} (hd : decode bs pc = .ok (.dcmp o, 1)) (hv : cmpValue (FP.dcmp x z) o = v) (hp : pc + 1 = pc') (kt : Go l Z R y bs ml ret n0 Q h k n pc' L (.int v :: St)) : Go l Z R y bs ml ret n0 Q h k n pc L (.double z :: .double x :: St) := by
  subst hp
  intro p e s m args below meth c T locs C X N eT
  exact (kt p e s m args below meth c T locs C X N eT).thru fun t q => XS.dcmpS X.here C.1 rfl (hb C.2.1 hd) rfl hv q
theorem dadd {x z v : UInt64} (hd : decode bs pc = .ok (.dadd, 1)) (hn : Jvm.Free.Fl.NoNaN64 (FP.dadd x z)) (hv : FP.dadd x z = v) (hp : pc + 1 = pc') (kt : Go l Z R y bs ml ret n0 Q h k n pc' L (.double v :: St)) : Go l Z R y bs ml ret n0 Q h k n pc L (.double z :: .double x :: St) := by
  subst hp
  intro p e s m args below meth c T locs C X N eT
  exact (kt p e s m args below meth c T locs C X N eT).thru fun t q => XS.daddS X.here C.1 rfl (hb C.2.1 hd) rfl hn hv q
theorem dsub {x z v : UInt64} (hd : decode bs pc = .ok (.dsub, 1)) (hn : Jvm.Free.Fl.NoNaN64 (FP.dsub x z)) (hv : FP.dsub x z = v) (hp : pc + 1 = pc') (kt : Go l Z R y bs ml ret n0 Q h k n pc' L (.double v :: St)) : Go l Z R y bs ml ret n0 Q h k n pc L (.double z :: .double x :: St) := by
  subst hp
  intro p e s m args below meth c T locs C X N eT
  exact (kt p e s m args below meth c T locs C X N eT).thru fun t q => XS.dsubS X.here C.1 rfl (hb C.2.1 hd) rfl hn hv q
theorem dmul {x z v : UInt64} (hd : decode bs pc = .ok (.dmul, 1)) (hn : Jvm.Free.Fl.NoNaN64 (FP.dmul x z)) (hv : FP.dmul x z = v) (hp : pc + 1 = pc') (kt : Go l Z R y bs ml ret n0 Q h k n pc' L (.double v :: St)) : Go l Z R y bs ml ret n0 Q h k n pc L (.double z :: .double x :: St) := by
  subst hp
  intro p e s m args below meth c T locs C X N eT
  exact (kt p e s m args below meth c T locs C X N eT).thru fun t q => XS.dmulS X.here C.1 rfl (hb C.2.1 hd) rfl hn hv q
theorem ddiv {x z v : UInt64} (hd : decode bs pc = .ok (.ddiv, 1)) (hn : Jvm.Free.Fl.NoNaN64 (FP.ddiv x z)) (hv : FP.ddiv x z = v) (hp : pc + 1 = pc') (kt : Go l Z R y bs ml ret n0 Q h k n pc' L (.double v :: St)) : Go l Z R y bs ml ret n0 Q h k n pc L (.double z :: .double x :: St) := by
  subst hp
  intro p e s m args below meth c T locs C X N eT
  exact (kt p e s m args below meth c T locs C X N eT).thru fun t q => XS.ddivS X.here C.1 rfl (hb C.2.1 hd) rfl hn hv q
theorem stD {a : Addr} {cl : Cell} {j : Int32} {x : UInt64} (hd : decode bs pc = .ok (.dastore, 1)) (A : Arr Z h a cl .double) (hj : ¬ (j < 0 ∨ cl.slots.size ≤ j.toNatClampNeg)) (g : n0 ≤ a) (hp : pc + 1 = pc') (kt : ∀ h', Wr h h' a j.toNatClampNeg (.double x) → Go l Z R y bs ml ret n0 Q h' k n pc' L St) : Go l Z R y bs ml ret n0 Q h k n pc L (.double x :: .int j :: .ref a :: St) := by
  subst hp
  intro p e s m args below meth c T locs C X N eT
  obtain ⟨T', h', X', e', W', st⟩ := Jvm.RoadKit.stD X C.1 C.2.2.2.2.2.2.2 eT A hj (g := mkF m pc L (.double x :: .int j :: .ref a :: St)) rfl rfl (hb C.2.1 hd)
  exact (kt h' W' p e s m args below meth c T' _ C X' (Fr.snoc X' N g) e').thru st
theorem daload {a : Addr} {cl : Cell} {j : Int32} {v : Value} (hd : decode bs pc = .ok (.daload, 1)) (A : Arr Z h a cl .double) (hj : ¬ (j < 0 ∨ cl.slots.size ≤ j.toNatClampNeg)) (hv : cl.slots[j.toNatClampNeg]? = some v) (hp : pc + 1 = pc') (kt : Go l Z R y bs ml ret n0 Q h k n pc' L (v :: St)) : Go l Z R y bs ml ret n0 Q h k n pc L (.int j :: .ref a :: St) := by
  subst hp
  intro p e s m args below meth c T locs C X N eT
  exact (kt p e s m args below meth c T locs C X N eT).thru fun t q => X.daload C.1 (by rw [eT]; exact A.1) (State.isArrayOf_alike C.2.2.2.2.2.2.2.alike A.2.1) A.2.2 hj hv (g := mkF m pc L (.int j :: .ref a :: St)) rfl rfl (hb C.2.1 hd) _ q
theorem dupX2 {x j : Int32} {a : Addr} (hd : decode bs pc = .ok (.dup_x2, 1)) (hp : pc + 1 = pc') (kt : Go l Z R y bs ml ret n0 Q h k n pc' L (.int x :: .int j :: .ref a :: .int x :: St)) : Go l Z R y bs ml ret n0 Q h k n pc L (.int x :: .int j :: .ref a :: St) := by
  subst hp
  intro p e s m args below meth c T locs C X N eT
  have hx := C.1
  have hd' := hb C.2.1 hd
  refine (kt p e s m args below meth c T locs C X N eT).thru fun t q => ?_
  show Steps p.tables e below (T.setTop { method := m, pc := pc, locals := L, stack := .int x :: .int j :: .ref a :: St, locked := none }) t
  jvm_step X.here [X.here.top, hx, hd', Value.category]
  exact q
theorem ldc2D {index : Nat} {v : UInt64} (hd : decode bs pc = .ok (.ldc2_w index, 3)) (w : (Cond.constantDouble y.cls index v).before a0 Z = true) (hp : pc + 3 = pc') (kt : Go l Z R y bs ml ret n0 Q h k n pc' L (.double v :: St)) : Go l Z R y bs ml ret n0 Q h k n pc L St := by
  subst hp
  intro p e s m args below meth c T locs C X N eT
  exact (kt p e s m args below meth c T locs C X N eT).thru (X.ldc2DoubleC C.1 C.2.2.2.1 (mvT C.2.2.2.2.2.2.2 w) (g := mkF m pc L St) rfl (hb C.2.1 hd))
end Dbl
end Jvm.OwnW
namespace Jvm.Pilot.@@N@@
open Jvm Jvm.ClassFile Sem Op Lib Jvm.Free Jvm.Stand Jvm.LawKit Jvm.RoadKit Jvm.Free.Fl Bundle Jvm.OwnW Jvm.Pilot.@@N@@.Jvm.D
theorem pd_28II29I : parseMethodDescriptor "(II)I" = some ⟨[.int, .int], some .int⟩ := by decide +kernel
theorem pd_285bII295bI : parseMethodDescriptor "([II)[I" = some ⟨[(.array .int), .int], some (.array .int)⟩ := by decide +kernel
theorem pd_28IIDID29D : parseMethodDescriptor "(IIDID)D" = some ⟨[.int, .int, .double, .int, .double], some .double⟩ := by decide +kernel
theorem pd_28II29D : parseMethodDescriptor "(II)D" = some ⟨[.int, .int], some .double⟩ := by decide +kernel
theorem pd_285bI5bDI29V : parseMethodDescriptor "([I[DI)V" = some ⟨[(.array .int), (.array .double), .int], none⟩ := by decide +kernel
theorem pd_285bD5bD29V : parseMethodDescriptor "([D[D)V" = some ⟨[(.array .double), (.array .double)], none⟩ := by decide +kernel
theorem pd_28IIIIIDDDDIIII29D : parseMethodDescriptor "(IIIIIDDDDIIII)D" = some ⟨[.int, .int, .int, .int, .int, .double, .double, .double, .double, .int, .int, .int, .int], some .double⟩ := by decide +kernel
theorem d5_0 : decode jdk_29_method_69_code 0 = .ok (.iload_n 0, 1) := by decide +kernel
theorem d5_1 : decode jdk_29_method_69_code 1 = .ok (.iload_n 1, 1) := by decide +kernel
theorem d5_2 : decode jdk_29_method_69_code 2 = .ok (.if_icmp .gt 7, 3) := by decide +kernel
theorem d5_5 : decode jdk_29_method_69_code 5 = .ok (.iload_n 0, 1) := by decide +kernel
theorem d5_6 : decode jdk_29_method_69_code 6 = .ok (.goto 4, 3) := by decide +kernel
theorem d5_9 : decode jdk_29_method_69_code 9 = .ok (.iload_n 1, 1) := by decide +kernel
theorem d5_10 : decode jdk_29_method_69_code 10 = .ok (.ireturn, 1) := by decide +kernel
def f5 (q0 : Int32) (q1 : Int32) : Int32 := (if q1 < q0 then q1 else q0)
abbrev GoB5 (l : Launch) (Z : State) (n0 : Nat) (Q : Option Value → Heap → Prop) := Go l Z ({ frames := 0, cells := 0, slots := 0, locals := 0 } : Room) (⟨"java/lang/Math", "min", "(II)I"⟩ : MethodName) jdk_29_method_69_code 2 (some .int) n0 Q
theorem ef5 (m : MethodId) (q0 : Int32) (q1 : Int32) : entryFrame m #[(.int q0), (.int q1)] 2 = mkF m 0 #[.val (.int q0), .val (.int q1)] [] := by first | (simp [entryFrame, mkF, argsToLocals, Value.category]; done) | rfl
set_option maxRecDepth 65536 in
set_option maxHeartbeats 40000000 in
theorem rm5 (l : Launch) (Z : State) (a0 : Array Value) (hw : ∀ d ∈ tables_1, d.before a0 Z = true) (q0 : Int32) (q1 : Int32) (h0 : Heap) (n0 : Nat) :
    Con l Z ({ frames := 0, cells := 0, slots := 0, locals := 0 } : Room) (⟨"java/lang/Math", "min", "(II)I"⟩ : MethodName) jdk_29_method_69_code 2 (some .int) n0 #[(.int q0), (.int q1)] h0 (OwnW.Ret (some (.int (f5 q0 q1))) h0) := by
  refine OwnW.Con.of (by first | decide +kernel | exact plainFor_of_name (by simp [plainName, overriddenIn])) (fun m => ef5 m q0 q1) ?_
  show GoB5 l Z n0 (OwnW.Ret (some (.int (f5 q0 q1))) h0) h0 0 0 0 #[.val (.int q0), .val (.int q1)] []
  refine OwnW.iloadN (pc' := 1) d5_0 rfl rfl ?_
  refine OwnW.iloadN (pc' := 2) d5_1 rfl rfl ?_
  by_cases hc2 : q1 < q0
  ·
    refine OwnW.icmpY (pc' := 9) d5_2 (tlt hc2).2.2.1 (by decide) (by decide) ?_
    refine OwnW.iloadN (pc' := 10) d5_9 rfl rfl ?_
    exact OwnW.retI d5_10 rfl (by decide) (by decide) (⟨by first | (simp only [f5, if_pos hc2]; done) | (simp only [f5, if_pos hc2]; rfl), rfl⟩)
  ·
    refine OwnW.icmpN (pc' := 5) d5_2 (flt hc2).2.2.1 rfl ?_
    refine OwnW.iloadN (pc' := 6) d5_5 rfl rfl ?_
    refine OwnW.goto (pc' := 10) d5_6 (by decide) (by decide) ?_
    exact OwnW.retI d5_10 rfl (by decide) (by decide) (⟨by first | (simp only [f5, if_neg hc2]; done) | (simp only [f5, if_neg hc2]; rfl), rfl⟩)

abbrev own_G (g : Int32) : Prop := g = (0 : Int32) ∨ g = (1 : Int32) ∨ g = (2 : Int32) ∨ g = (3 : Int32)
def own_S (g : Int32) (s : UInt64) : Prop := ¬ (cmpValue (FP.dcmp s (0 : UInt64)) .l) < (0 : Int32) ∧ ¬ (0 : Int32) < (cmpValue (FP.dcmp s (4607182418800017408 : UInt64)) .g) ∧ (g = (0 : Int32) → (cmpValue (FP.dcmp s (0 : UInt64)) .l) = (0 : Int32)) ∧ Mag64 1024 s
theorem own_bd {g : Int32} (h : own_G g) : ¬ g < 0 ∧ g < (4 : Int32) := by rcases h with rfl | rfl | rfl | rfl <;> decide
theorem own_gn {g : Int32} (h : own_G g) : ¬ g < (0 : Int32) ∧ ¬ (3 : Int32) < g := by rcases h with rfl | rfl | rfl | rfl <;> decide
theorem own_gd (L : List Int32) (i : Nat) : (L.map Value.int).getD i (.int (0 : Int32)) = .int (L.getD i 0) := by
  simp only [List.getD_eq_getElem?_getD, List.getElem?_map]
  cases L[i]? <;> rfl
theorem own_gdD (L : List UInt64) (i : Nat) : (L.map Value.double).getD i (.double (0 : UInt64)) = .double (L.getD i 0) := by
  simp only [List.getD_eq_getElem?_getD, List.getElem?_map]
  cases L[i]? <;> rfl
theorem own_ln {L : List Int32} {n : Nat} {j z : Int32} (l : L.length = n) (b : ¬ j < 0 ∧ j < z) (q : z.toNatClampNeg = n) : j.toNatClampNeg < (L.map Value.int).length := by
  rw [List.length_map, l, ← q]
  obtain ⟨h0, h1⟩ := b
  rw [Int32.lt_iff_toInt_lt] at h0 h1
  have e0 : (0 : Int32).toInt = 0 := rfl
  simp only [Int32.toNatClampNeg]
  omega
theorem own_us (SL : List Int32) : ([SL.getD 0 0, SL.getD 1 0, SL.getD 2 0, SL.getD 3 0].map Value.int) = (List.range (4 : Int32).toNatClampNeg).map fun i => (SL.map Value.int).getD ((0 : Int32).toNatClampNeg + i) (.int (0 : Int32)) := by
  have e : (4 : Int32).toNatClampNeg = 4 := by decide
  have z : (0 : Int32).toNatClampNeg = 0 := by decide
  simp only [e, z, Nat.zero_add, own_gd]
  rfl
def own_is (t g0 g1 g2 g3 : Int32) : List Int32 := (if g0 = t then [0] else []) ++ (if g1 = t then [1] else []) ++ (if g2 = t then [2] else []) ++ (if g3 = t then [3] else [])
def own_ML (g0 g1 g2 g3 : Int32) : List Int32 := own_is 1 g0 g1 g2 g3 ++ own_is 2 g0 g1 g2 g3 ++ own_is 3 g0 g1 g2 g3
def own_n (t g0 g1 g2 g3 : Int32) : Int32 := Int32.ofNat (own_is t g0 g1 g2 g3).length
def own_SL (g0 g1 g2 g3 : Int32) : List Int32 := [0, 0, own_n 1 g0 g1 g2 g3, own_n 1 g0 g1 g2 g3 + own_n 2 g0 g1 g2 g3, own_n 1 g0 g1 g2 g3 + own_n 2 g0 g1 g2 g3 + own_n 3 g0 g1 g2 g3]
def own_T (g0 g1 g2 g3 : Int32) : Int32 := own_n 1 g0 g1 g2 g3 + own_n 2 g0 g1 g2 g3 + own_n 3 g0 g1 g2 g3
def own_fold (S X : List UInt64) (L : List Int32) : Nat → Int32 → UInt64 → UInt64
  | 0, _, a => a
  | n + 1, j, a => own_fold S X L n (j + (1 : Int32)) (FP.dadd a (FP.dmul (S.getD (L.getD j.toNatClampNeg 0).toNatClampNeg 0) (X.getD (L.getD j.toNatClampNeg 0).toNatClampNeg 0)))
def own_jn : Nat → Int32 → Int32
  | 0, j => j
  | n + 1, j => own_jn n (j + (1 : Int32))
theorem own_z : NoNaN64 (0 : UInt64) := by unfold NoNaN64; decide +kernel
theorem own_min (x : Int32) : ∃ r : Fin 5, (f5 (x &&& (7 : Int32)) (4 : Int32)) = Int32.ofNat r.val := by
  have e := c_mask x 7 3 (by decide) (by decide)
  have k : ∀ r : Fin 8, ∃ q : Fin 5, f5 (Int32.ofNat r.val) 4 = Int32.ofNat q.val := by decide +kernel
  have b : (x &&& 7) = Int32.ofNat (x &&& 7).toInt.toNat := by
    apply Int32.toInt_inj.mp
    have q : (Int32.ofNat (x &&& 7).toInt.toNat).toInt = ((x &&& 7).toInt.toNat : Int) := len_toInt (n := (x &&& 7).toInt.toNat) (by omega)
    omega
  have z := k ⟨(x &&& 7).toInt.toNat, by omega⟩
  rw [b]
  exact z
theorem own_dv (x : Int32) : NoNaN64 (FP.ddiv (FP.i2d (f5 (x &&& (7 : Int32)) (4 : Int32))) (4616189618054758400 : UInt64)) := by
  obtain ⟨r, e⟩ := own_min x
  rw [e]
  have k : ∀ r : Fin 5, (FP.ddiv (FP.i2d (Int32.ofNat r.val)) (4616189618054758400 : UInt64)) &&& 0x7fffffffffffffff ≤ 0x7ff0000000000000 := by decide +kernel
  exact k r

theorem d1_0 : decode method_3_code 0 = .ok (.iload_n 0, 1) := by decide +kernel
theorem d1_1 : decode method_3_code 1 = .ok (.ifCond .ne 5, 3) := by decide +kernel
theorem d1_4 : decode method_3_code 4 = .ok (.dconst 0, 1) := by decide +kernel
theorem d1_5 : decode method_3_code 5 = .ok (.dreturn, 1) := by decide +kernel
theorem d1_6 : decode method_3_code 6 = .ok (.iload_n 1, 1) := by decide +kernel
theorem d1_7 : decode method_3_code 7 = .ok (.bipush 7, 2) := by decide +kernel
theorem d1_9 : decode method_3_code 9 = .ok (.iand, 1) := by decide +kernel
theorem d1_10 : decode method_3_code 10 = .ok (.iconst 4, 1) := by decide +kernel
theorem d1_11 : decode method_3_code 11 = .ok (.invokestatic 28, 3) := by decide +kernel
theorem d1_14 : decode method_3_code 14 = .ok (.i2d, 1) := by decide +kernel
theorem d1_15 : decode method_3_code 15 = .ok (.ldc2_w 34, 3) := by decide +kernel
theorem d1_18 : decode method_3_code 18 = .ok (.ddiv, 1) := by decide +kernel
theorem d1_19 : decode method_3_code 19 = .ok (.dreturn, 1) := by decide +kernel
def f1 (q0 : Int32) (q1 : Int32) : UInt64 := (if q0 = (0 : Int32) then (0 : UInt64) else (FP.ddiv (FP.i2d (f5 (q1 &&& (7 : Int32)) (4 : Int32))) (4616189618054758400 : UInt64)))
abbrev GoB1 (l : Launch) (Z : State) (n0 : Nat) (Q : Option Value → Heap → Prop) := Go l Z ({ frames := 1, cells := 0, slots := 0, locals := 13 } : Room) (⟨"com/example/sieve_for_links/sieveforlinks/VirtualLinksSpreadPinLaw", "share", "(II)D"⟩ : MethodName) method_3_code 2 (some .double) n0 Q
theorem ef1 (m : MethodId) (q0 : Int32) (q1 : Int32) : entryFrame m #[(.int q0), (.int q1)] 2 = mkF m 0 #[.val (.int q0), .val (.int q1)] [] := by first | (simp [entryFrame, mkF, argsToLocals, Value.category]; done) | rfl
set_option maxRecDepth 65536 in
set_option maxHeartbeats 40000000 in
theorem rm1 (l : Launch) (Z : State) (a0 : Array Value) (hw : ∀ d ∈ tables_1, d.before a0 Z = true) (q0 : Int32) (q1 : Int32) (h0 : Heap) (n0 : Nat) :
    Con l Z ({ frames := 1, cells := 0, slots := 0, locals := 13 } : Room) (⟨"com/example/sieve_for_links/sieveforlinks/VirtualLinksSpreadPinLaw", "share", "(II)D"⟩ : MethodName) method_3_code 2 (some .double) n0 #[(.int q0), (.int q1)] h0 (OwnW.Ret (some (.double (f1 q0 q1))) h0) := by
  refine OwnW.Con.of (by first | decide +kernel | exact plainFor_of_name (by simp [plainName, overriddenIn])) (fun m => ef1 m q0 q1) ?_
  show GoB1 l Z n0 (OwnW.Ret (some (.double (f1 q0 q1))) h0) h0 0 0 0 #[.val (.int q0), .val (.int q1)] []
  refine OwnW.iloadN (pc' := 1) d1_0 rfl rfl ?_
  by_cases hc1 : q0 = (0 : Int32)
  ·
    refine OwnW.ifcN (pc' := 4) d1_1 ((if0 _ _).trans (teq hc1).2) rfl ?_
    refine OwnW.dconst0 (pc' := 5) (v := (0 : UInt64)) d1_4 (by decide +kernel) rfl ?_
    exact OwnW.retD d1_5 rfl (by decide) (by decide) (⟨by first | (simp only [f1, if_pos hc1]; done) | (simp only [f1, if_pos hc1]; rfl), rfl⟩)
  ·
    refine OwnW.ifcY (pc' := 6) d1_1 ((if0 _ _).trans (feq hc1).2) (by decide) (by decide) ?_
    refine OwnW.iloadN (pc' := 7) d1_6 rfl rfl ?_
    refine OwnW.bipush (pc' := 9) (v := (7 : Int32)) d1_7 rfl rfl ?_
    refine OwnW.iand (pc' := 10) d1_9 rfl ?_
    refine OwnW.iconst (pc' := 11) (v := (4 : Int32)) d1_10 rfl rfl ?_
    refine OwnW.callS0 (a0 := a0) (pc' := 14) (W := 0) (k' := 0) (n' := 0) (argsL := [(.int (q1 &&& (7 : Int32))), (.int (4 : Int32))]) (rest := []) (St' := [(.int (f5 (q1 &&& (7 : Int32)) (4 : Int32)))]) d1_11 (hw _ (List.mem_of_getElem? (i := 47) rfl)) (hw _ (List.mem_of_getElem? (i := 20) rfl)) (hw _ (List.mem_of_getElem? (i := 21) rfl)) (hw _ (List.mem_of_getElem? (i := 22) rfl)) (by decide) (rm5 l Z a0 hw (q1 &&& (7 : Int32)) (4 : Int32) h0 n0) (by decide) (by decide) rfl rfl (by decide) (by decide) rfl pd_28II29I rfl rfl rfl (Nat.le_of_ble_eq_true rfl) rfl rfl ?_
    refine OwnW.i2d (pc' := 15) d1_14 rfl rfl ?_
    refine OwnW.ldc2D (a0 := a0) (pc' := 18) (v := (4616189618054758400 : UInt64)) d1_15 (hw _ (List.mem_of_getElem? (i := 48) rfl)) rfl ?_
    refine OwnW.ddiv (pc' := 19) d1_18 (own_dv q1) rfl rfl ?_
    exact OwnW.retD d1_19 rfl (by decide) (by decide) (⟨by first | (simp only [f1, if_neg hc1]; done) | (simp only [f1, if_neg hc1]; rfl), rfl⟩)
theorem d4_0 : decode jdk_65_method_123_code 0 = .ok (.iload_n 1, 1) := by decide +kernel
theorem d4_1 : decode jdk_65_method_123_code 1 = .ok (.aload_n 0, 1) := by decide +kernel
theorem d4_2 : decode jdk_65_method_123_code 2 = .ok (.arraylength, 1) := by decide +kernel
theorem d4_3 : decode jdk_65_method_123_code 3 = .ok (.if_icmp .ne 11, 3) := by decide +kernel
theorem d4_14 : decode jdk_65_method_123_code 14 = .ok (.iload_n 1, 1) := by decide +kernel
theorem d4_15 : decode jdk_65_method_123_code 15 = .ok (.newarray .int, 2) := by decide +kernel
theorem d4_17 : decode jdk_65_method_123_code 17 = .ok (.astore_n 2, 1) := by decide +kernel
theorem d4_18 : decode jdk_65_method_123_code 18 = .ok (.aload_n 0, 1) := by decide +kernel
theorem d4_19 : decode jdk_65_method_123_code 19 = .ok (.iconst 0, 1) := by decide +kernel
theorem d4_20 : decode jdk_65_method_123_code 20 = .ok (.aload_n 2, 1) := by decide +kernel
theorem d4_21 : decode jdk_65_method_123_code 21 = .ok (.iconst 0, 1) := by decide +kernel
theorem d4_22 : decode jdk_65_method_123_code 22 = .ok (.aload_n 0, 1) := by decide +kernel
theorem d4_23 : decode jdk_65_method_123_code 23 = .ok (.arraylength, 1) := by decide +kernel
theorem d4_24 : decode jdk_65_method_123_code 24 = .ok (.iload_n 1, 1) := by decide +kernel
theorem d4_25 : decode jdk_65_method_123_code 25 = .ok (.invokestatic 304, 3) := by decide +kernel
theorem d4_28 : decode jdk_65_method_123_code 28 = .ok (.invokestatic 150, 3) := by decide +kernel
theorem d4_31 : decode jdk_65_method_123_code 31 = .ok (.aload_n 2, 1) := by decide +kernel
theorem d4_32 : decode jdk_65_method_123_code 32 = .ok (.areturn, 1) := by decide +kernel
def Q4 (Z : State) (q0 : Addr) (qk : ClassId) (SL : List Int32) (h0 : Heap) (v : Option Value) (h : Heap) : Prop := ∃ (x0 : Addr) (k0 : ClassId), v = some (.ref x0) ∧ Keep h0 h [] ∧ h0.size ≤ x0 ∧ Arv Z h x0 k0 .int (4 : Int32) [(.int (SL.getD 0 0)), (.int (SL.getD 1 0)), (.int (SL.getD 2 0)), (.int (SL.getD 3 0))] (.int (0 : Int32))
abbrev GoB4 (l : Launch) (Z : State) (n0 : Nat) (Q : Option Value → Heap → Prop) := Go l Z ({ frames := 1, cells := 1, slots := 4, locals := 18 } : Room) (⟨"java/util/Arrays", "copyOf", "([II)[I"⟩ : MethodName) jdk_65_method_123_code 3 (some (.array .int)) n0 Q
theorem ef4 (m : MethodId) (q0 : Addr) : entryFrame m #[(.ref q0), (.int (4 : Int32))] 3 = mkF m 0 #[.val (.ref q0), .val (.int (4 : Int32)), .unset] [] := by first | (simp [entryFrame, mkF, argsToLocals, Value.category]; done) | rfl
set_option maxRecDepth 65536 in
set_option maxHeartbeats 40000000 in
theorem rm4 (l : Launch) (Z : State) (a0 : Array Value) (hw : ∀ d ∈ tables_1, d.before a0 Z = true) (q0 : Addr) (qk : ClassId) (SL : List Int32) (h0 : Heap) (n0 : Nat) (Z0 : n0 ≤ h0.size) (V_q : Arv Z h0 q0 qk .int (5 : Int32) (SL.map Value.int) (.int (0 : Int32))) :
    Con l Z ({ frames := 1, cells := 1, slots := 4, locals := 18 } : Room) (⟨"java/util/Arrays", "copyOf", "([II)[I"⟩ : MethodName) jdk_65_method_123_code 3 (some (.array .int)) n0 #[(.ref q0), (.int (4 : Int32))] h0 (Q4 Z q0 qk SL h0) := by
  refine OwnW.Con.of (by first | decide +kernel | exact plainFor_of_name (by simp [plainName, overriddenIn])) (fun m => ef4 m q0) ?_
  show GoB4 l Z n0 (Q4 Z q0 qk SL h0) h0 0 0 0 #[.val (.ref q0), .val (.int (4 : Int32)), .unset] []
  refine OwnW.iloadN (pc' := 1) d4_0 rfl rfl ?_
  refine OwnW.aloadN (pc' := 2) d4_1 rfl (rfl) rfl ?_
  obtain ⟨cla, Ara, qka, Sza, Mna, Hva, Gfa⟩ := id V_q
  refine OwnW.alen (pc' := 3) (x := (5 : Int32)) d4_2 Ara (len_of Sza Mna) rfl ?_
  show GoB4 l Z n0 (Q4 Z q0 qk SL h0) h0 0 0 3 #[.val (.ref q0), .val (.int (4 : Int32)), .unset] [(.int (5 : Int32)), (.int (4 : Int32))]
  refine OwnW.icmpY (pc' := 14) d4_3 (feq (by decide)).2 (by decide) (by decide) ?_
  refine OwnW.iloadN (pc' := 15) d4_14 rfl rfl ?_
  refine OwnW.newP (a0 := a0) (pc' := 17) (cap := 4) (k' := 1) (n' := 4) d4_15 (hw _ (List.mem_of_getElem? (i := 4) rfl)) (by decide) (by decide) (by decide) rfl rfl (by decide) (by decide) rfl ?_
  intro h1 kc1 ad1 gq1 E1 A1
  have lt_q0_ad1 : @LT.lt Nat _ q0 ad1 := Nat.lt_of_lt_of_le (V_q).lt (Nat.le_of_eq gq1.symm)
  have ge_ad1 : n0 ≤ ad1 := Nat.le_trans Z0 (Nat.le_of_eq gq1.symm)
  have sz_ad1 : n0 ≤ h1.size := Nat.le_trans Z0 E1.1
  have V1 : Arv Z h1 ad1 kc1 .int (4 : Int32) [(.int (0 : Int32)), (.int (0 : Int32)), (.int (0 : Int32)), (.int (0 : Int32))] (.int (0 : Int32)) := (Arv.new A1 (by decide)).pad (pad_rep [] _ 4)
  refine OwnW.astoreN (pc' := 18) (L' := #[.val (.ref q0), .val (.int (4 : Int32)), .val (.ref ad1)]) d4_17 (rfl) rfl rfl ?_
  refine OwnW.aloadN (pc' := 19) d4_18 rfl (rfl) rfl ?_
  refine OwnW.iconst (pc' := 20) (v := (0 : Int32)) d4_19 rfl rfl ?_
  refine OwnW.aloadN (pc' := 21) d4_20 rfl (rfl) rfl ?_
  refine OwnW.iconst (pc' := 22) (v := (0 : Int32)) d4_21 rfl rfl ?_
  refine OwnW.aloadN (pc' := 23) d4_22 rfl (rfl) rfl ?_
  have F2 := (V_q.ext E1)
  obtain ⟨clb, Arb, qkb, Szb, Mnb, Hvb, Gfb⟩ := id F2
  refine OwnW.alen (pc' := 24) (x := (5 : Int32)) d4_23 Arb (len_of Szb Mnb) rfl ?_
  show GoB4 l Z n0 (Q4 Z q0 qk SL h0) h1 1 4 24 #[.val (.ref q0), .val (.int (4 : Int32)), .val (.ref ad1)] [(.int (5 : Int32)), (.int (0 : Int32)), (.ref ad1), (.int (0 : Int32)), (.ref q0)]
  refine OwnW.iloadN (pc' := 25) d4_24 rfl rfl ?_
  refine OwnW.callS0 (a0 := a0) (pc' := 28) (W := 4) (k' := 1) (n' := 4) (argsL := [(.int (5 : Int32)), (.int (4 : Int32))]) (rest := [(.int (0 : Int32)), (.ref ad1), (.int (0 : Int32)), (.ref q0)]) (St' := [(.int (f5 (5 : Int32) (4 : Int32))), (.int (0 : Int32)), (.ref ad1), (.int (0 : Int32)), (.ref q0)]) d4_25 (hw _ (List.mem_of_getElem? (i := 19) rfl)) (hw _ (List.mem_of_getElem? (i := 20) rfl)) (hw _ (List.mem_of_getElem? (i := 21) rfl)) (hw _ (List.mem_of_getElem? (i := 22) rfl)) (by decide) (rm5 l Z a0 hw (5 : Int32) (4 : Int32) h1 n0) (by decide) (by decide) rfl rfl (by decide) (by decide) rfl pd_28II29I rfl rfl rfl (Nat.le_of_ble_eq_true rfl) rfl rfl ?_
  rw [show (f5 (5 : Int32) (4 : Int32)) = (4 : Int32) from (by decide)]
  show GoB4 l Z n0 (Q4 Z q0 qk SL h0) h1 1 4 28 #[.val (.ref q0), .val (.int (4 : Int32)), .val (.ref ad1)] [(.int (4 : Int32)), (.int (0 : Int32)), (.ref ad1), (.int (0 : Int32)), (.ref q0)]
  refine OwnW.cpA (a0 := a0) (pc' := 31) (W := 0) (us := ([SL.getD 0 0, SL.getD 1 0, SL.getD 2 0, SL.getD 3 0].map Value.int)) d4_28 (hw _ (List.mem_of_getElem? (i := 23) rfl)) (hw _ (List.mem_of_getElem? (i := 26) rfl)) (hw _ (List.mem_of_getElem? (i := 24) rfl)) (hw _ (List.mem_of_getElem? (i := 25) rfl)) F2 V1 (Or.inl ⟨rfl, rfl⟩) (by decide) (by decide) (by decide) (by decide) (by decide) (own_us SL) (by decide) ge_ad1 rfl (by decide) (Nat.le_of_ble_eq_true rfl) (by decide) rfl ?_
  intro hk Kk Vk
  have sz3 : n0 ≤ hk.size := Nat.le_trans sz_ad1 Kk.1
  have Vl : Arv Z hk ad1 kc1 .int (4 : Int32) [(.int (SL.getD 0 0)), (.int (SL.getD 1 0)), (.int (SL.getD 2 0)), (.int (SL.getD 3 0))] (.int (0 : Int32)) := Vk
  show GoB4 l Z n0 (Q4 Z q0 qk SL h0) hk 1 4 31 #[.val (.ref q0), .val (.int (4 : Int32)), .val (.ref ad1)] []
  refine OwnW.aloadN (pc' := 32) d4_31 rfl (rfl) rfl ?_
  exact OwnW.retA d4_32 rfl rfl rfl (by decide) (by decide) (⟨ad1, kc1, rfl, (((Keep.refl h0 []).ext E1).trans Kk (allS (Or.inr (Nat.le_trans (Nat.le_refl _) (Nat.le_of_eq gq1.symm))) all0)), (Nat.le_trans (Nat.le_refl _) (Nat.le_of_eq gq1.symm)), Vl⟩)
set_option maxHeartbeats 40000000 in
theorem own_tt {g0 : Int32} {g1 : Int32} {g2 : Int32} {g3 : Int32} {C15 : List Int32} {C18 : List Int32} {C33 : List Int32} {C48 : List Int32} {C63 : List Int32} {C68 : List Int32} {C73 : List Int32} {C79 : List Int32} {C85 : List Int32} {tt : Int32} (hg0 : own_G g0) (hg1 : own_G g1) (hg2 : own_G g2) (hg3 : own_G g3) (hC15 : C15 = [(0 : Int32), (0 : Int32), (0 : Int32), (0 : Int32)]) (hC18 : C18 = (C15.set g0.toNatClampNeg ((C15.getD g0.toNatClampNeg 0) + (1 : Int32)))) (hC33 : C33 = (C18.set g1.toNatClampNeg ((C18.getD g1.toNatClampNeg 0) + (1 : Int32)))) (hC48 : C48 = (C33.set g2.toNatClampNeg ((C33.getD g2.toNatClampNeg 0) + (1 : Int32)))) (hC63 : C63 = (C48.set g3.toNatClampNeg ((C48.getD g3.toNatClampNeg 0) + (1 : Int32)))) (hC68 : C68 = [(0 : Int32), (0 : Int32), (0 : Int32), (0 : Int32), (0 : Int32)]) (hC73 : C73 = (C68.set 2 ((C68.getD 1 0) + (C63.getD 1 0)))) (hC79 : C79 = (C73.set 3 ((C73.getD 2 0) + (C63.getD 2 0)))) (hC85 : C85 = (C79.set 4 ((C79.getD 3 0) + (C63.getD 3 0)))) (htt : tt = (C85.getD 4 0)) : ¬ tt < 0 ∧ tt.toNatClampNeg ≤ 4 ∧ tt = (own_T g0 g1 g2 g3) := by
  subst  htt hC85 hC79 hC73 hC68 hC63 hC48 hC33 hC18 hC15
  rcases hg0 with rfl | rfl | rfl | rfl <;> rcases hg1 with rfl | rfl | rfl | rfl <;> rcases hg2 with rfl | rfl | rfl | rfl <;> rcases hg3 with rfl | rfl | rfl | rfl <;> decide +kernel
set_option maxHeartbeats 40000000 in
theorem own_mb0 {g0 : Int32} {g1 : Int32} {g2 : Int32} {g3 : Int32} {C15 : List Int32} {C18 : List Int32} {C33 : List Int32} {C48 : List Int32} {C63 : List Int32} {C68 : List Int32} {C73 : List Int32} {C79 : List Int32} {C85 : List Int32} {C0 : List Int32} {C95 : List Int32} {C98 : List Int32} {tt : Int32} (hg0 : own_G g0) (hg1 : own_G g1) (hg2 : own_G g2) (hg3 : own_G g3) (hC15 : C15 = [(0 : Int32), (0 : Int32), (0 : Int32), (0 : Int32)]) (hC18 : C18 = (C15.set g0.toNatClampNeg ((C15.getD g0.toNatClampNeg 0) + (1 : Int32)))) (hC33 : C33 = (C18.set g1.toNatClampNeg ((C18.getD g1.toNatClampNeg 0) + (1 : Int32)))) (hC48 : C48 = (C33.set g2.toNatClampNeg ((C33.getD g2.toNatClampNeg 0) + (1 : Int32)))) (hC63 : C63 = (C48.set g3.toNatClampNeg ((C48.getD g3.toNatClampNeg 0) + (1 : Int32)))) (hC68 : C68 = [(0 : Int32), (0 : Int32), (0 : Int32), (0 : Int32), (0 : Int32)]) (hC73 : C73 = (C68.set 2 ((C68.getD 1 0) + (C63.getD 1 0)))) (hC79 : C79 = (C73.set 3 ((C73.getD 2 0) + (C63.getD 2 0)))) (hC85 : C85 = (C79.set 4 ((C79.getD 3 0) + (C63.getD 3 0)))) (hC0 : C0 = (List.replicate tt.toNatClampNeg 0)) (hC95 : C95 = [(C85.getD 0 0), (C85.getD 1 0), (C85.getD 2 0), (C85.getD 3 0)]) (hC98 : C98 = (C95.set g0.toNatClampNeg ((C95.getD g0.toNatClampNeg 0) + (1 : Int32)))) (htt : tt = (C85.getD 4 0)) (y0 : (0 : Int32) < g0) : ¬ (C95.getD g0.toNatClampNeg 0) < 0 ∧ (C95.getD g0.toNatClampNeg 0) < tt := by
  subst hC98 hC95 hC0 htt hC85 hC79 hC73 hC68 hC63 hC48 hC33 hC18 hC15
  rcases hg0 with rfl | rfl | rfl | rfl <;> rcases hg1 with rfl | rfl | rfl | rfl <;> rcases hg2 with rfl | rfl | rfl | rfl <;> rcases hg3 with rfl | rfl | rfl | rfl <;> revert y0 <;> decide +kernel
set_option maxHeartbeats 40000000 in
theorem own_mb1 {g0 : Int32} {g1 : Int32} {g2 : Int32} {g3 : Int32} {C15 : List Int32} {C18 : List Int32} {C33 : List Int32} {C48 : List Int32} {C63 : List Int32} {C68 : List Int32} {C73 : List Int32} {C79 : List Int32} {C85 : List Int32} {C0 : List Int32} {C95 : List Int32} {C98 : List Int32} {C102 : List Int32} {C111 : List Int32} {tt : Int32} (hg0 : own_G g0) (hg1 : own_G g1) (hg2 : own_G g2) (hg3 : own_G g3) (hC15 : C15 = [(0 : Int32), (0 : Int32), (0 : Int32), (0 : Int32)]) (hC18 : C18 = (C15.set g0.toNatClampNeg ((C15.getD g0.toNatClampNeg 0) + (1 : Int32)))) (hC33 : C33 = (C18.set g1.toNatClampNeg ((C18.getD g1.toNatClampNeg 0) + (1 : Int32)))) (hC48 : C48 = (C33.set g2.toNatClampNeg ((C33.getD g2.toNatClampNeg 0) + (1 : Int32)))) (hC63 : C63 = (C48.set g3.toNatClampNeg ((C48.getD g3.toNatClampNeg 0) + (1 : Int32)))) (hC68 : C68 = [(0 : Int32), (0 : Int32), (0 : Int32), (0 : Int32), (0 : Int32)]) (hC73 : C73 = (C68.set 2 ((C68.getD 1 0) + (C63.getD 1 0)))) (hC79 : C79 = (C73.set 3 ((C73.getD 2 0) + (C63.getD 2 0)))) (hC85 : C85 = (C79.set 4 ((C79.getD 3 0) + (C63.getD 3 0)))) (hC0 : C0 = (List.replicate tt.toNatClampNeg 0)) (hC95 : C95 = [(C85.getD 0 0), (C85.getD 1 0), (C85.getD 2 0), (C85.getD 3 0)]) (hC98 : C98 = (C95.set g0.toNatClampNeg ((C95.getD g0.toNatClampNeg 0) + (1 : Int32)))) (hC102 : C102 = (C0.set (C95.getD g0.toNatClampNeg 0).toNatClampNeg (0 : Int32))) (hC111 : C111 = (C98.set g1.toNatClampNeg ((C98.getD g1.toNatClampNeg 0) + (1 : Int32)))) (htt : tt = (C85.getD 4 0)) (y0 : (0 : Int32) < g0) (y1 : (0 : Int32) < g1) : ¬ (C98.getD g1.toNatClampNeg 0) < 0 ∧ (C98.getD g1.toNatClampNeg 0) < tt := by
  subst hC111 hC102 hC98 hC95 hC0 htt hC85 hC79 hC73 hC68 hC63 hC48 hC33 hC18 hC15
  rcases hg0 with rfl | rfl | rfl | rfl <;> rcases hg1 with rfl | rfl | rfl | rfl <;> rcases hg2 with rfl | rfl | rfl | rfl <;> rcases hg3 with rfl | rfl | rfl | rfl <;> revert y0 y1 <;> decide +kernel
set_option maxHeartbeats 40000000 in
theorem own_mb2 {g0 : Int32} {g1 : Int32} {g2 : Int32} {g3 : Int32} {C15 : List Int32} {C18 : List Int32} {C33 : List Int32} {C48 : List Int32} {C63 : List Int32} {C68 : List Int32} {C73 : List Int32} {C79 : List Int32} {C85 : List Int32} {C0 : List Int32} {C95 : List Int32} {C98 : List Int32} {C102 : List Int32} {C111 : List Int32} {C115 : List Int32} {C124 : List Int32} {tt : Int32} (hg0 : own_G g0) (hg1 : own_G g1) (hg2 : own_G g2) (hg3 : own_G g3) (hC15 : C15 = [(0 : Int32), (0 : Int32), (0 : Int32), (0 : Int32)]) (hC18 : C18 = (C15.set g0.toNatClampNeg ((C15.getD g0.toNatClampNeg 0) + (1 : Int32)))) (hC33 : C33 = (C18.set g1.toNatClampNeg ((C18.getD g1.toNatClampNeg 0) + (1 : Int32)))) (hC48 : C48 = (C33.set g2.toNatClampNeg ((C33.getD g2.toNatClampNeg 0) + (1 : Int32)))) (hC63 : C63 = (C48.set g3.toNatClampNeg ((C48.getD g3.toNatClampNeg 0) + (1 : Int32)))) (hC68 : C68 = [(0 : Int32), (0 : Int32), (0 : Int32), (0 : Int32), (0 : Int32)]) (hC73 : C73 = (C68.set 2 ((C68.getD 1 0) + (C63.getD 1 0)))) (hC79 : C79 = (C73.set 3 ((C73.getD 2 0) + (C63.getD 2 0)))) (hC85 : C85 = (C79.set 4 ((C79.getD 3 0) + (C63.getD 3 0)))) (hC0 : C0 = (List.replicate tt.toNatClampNeg 0)) (hC95 : C95 = [(C85.getD 0 0), (C85.getD 1 0), (C85.getD 2 0), (C85.getD 3 0)]) (hC98 : C98 = (C95.set g0.toNatClampNeg ((C95.getD g0.toNatClampNeg 0) + (1 : Int32)))) (hC102 : C102 = (C0.set (C95.getD g0.toNatClampNeg 0).toNatClampNeg (0 : Int32))) (hC111 : C111 = (C98.set g1.toNatClampNeg ((C98.getD g1.toNatClampNeg 0) + (1 : Int32)))) (hC115 : C115 = (C102.set (C98.getD g1.toNatClampNeg 0).toNatClampNeg (1 : Int32))) (hC124 : C124 = (C111.set g2.toNatClampNeg ((C111.getD g2.toNatClampNeg 0) + (1 : Int32)))) (htt : tt = (C85.getD 4 0)) (y0 : (0 : Int32) < g0) (y1 : (0 : Int32) < g1) (y2 : (0 : Int32) < g2) : ¬ (C111.getD g2.toNatClampNeg 0) < 0 ∧ (C111.getD g2.toNatClampNeg 0) < tt := by
  subst hC124 hC115 hC111 hC102 hC98 hC95 hC0 htt hC85 hC79 hC73 hC68 hC63 hC48 hC33 hC18 hC15
  rcases hg0 with rfl | rfl | rfl | rfl <;> rcases hg1 with rfl | rfl | rfl | rfl <;> rcases hg2 with rfl | rfl | rfl | rfl <;> rcases hg3 with rfl | rfl | rfl | rfl <;> revert y0 y1 y2 <;> decide +kernel
set_option maxHeartbeats 40000000 in
theorem own_mb3 {g0 : Int32} {g1 : Int32} {g2 : Int32} {g3 : Int32} {C15 : List Int32} {C18 : List Int32} {C33 : List Int32} {C48 : List Int32} {C63 : List Int32} {C68 : List Int32} {C73 : List Int32} {C79 : List Int32} {C85 : List Int32} {C0 : List Int32} {C95 : List Int32} {C98 : List Int32} {C102 : List Int32} {C111 : List Int32} {C115 : List Int32} {C124 : List Int32} {C128 : List Int32} {C137 : List Int32} {tt : Int32} (hg0 : own_G g0) (hg1 : own_G g1) (hg2 : own_G g2) (hg3 : own_G g3) (hC15 : C15 = [(0 : Int32), (0 : Int32), (0 : Int32), (0 : Int32)]) (hC18 : C18 = (C15.set g0.toNatClampNeg ((C15.getD g0.toNatClampNeg 0) + (1 : Int32)))) (hC33 : C33 = (C18.set g1.toNatClampNeg ((C18.getD g1.toNatClampNeg 0) + (1 : Int32)))) (hC48 : C48 = (C33.set g2.toNatClampNeg ((C33.getD g2.toNatClampNeg 0) + (1 : Int32)))) (hC63 : C63 = (C48.set g3.toNatClampNeg ((C48.getD g3.toNatClampNeg 0) + (1 : Int32)))) (hC68 : C68 = [(0 : Int32), (0 : Int32), (0 : Int32), (0 : Int32), (0 : Int32)]) (hC73 : C73 = (C68.set 2 ((C68.getD 1 0) + (C63.getD 1 0)))) (hC79 : C79 = (C73.set 3 ((C73.getD 2 0) + (C63.getD 2 0)))) (hC85 : C85 = (C79.set 4 ((C79.getD 3 0) + (C63.getD 3 0)))) (hC0 : C0 = (List.replicate tt.toNatClampNeg 0)) (hC95 : C95 = [(C85.getD 0 0), (C85.getD 1 0), (C85.getD 2 0), (C85.getD 3 0)]) (hC98 : C98 = (C95.set g0.toNatClampNeg ((C95.getD g0.toNatClampNeg 0) + (1 : Int32)))) (hC102 : C102 = (C0.set (C95.getD g0.toNatClampNeg 0).toNatClampNeg (0 : Int32))) (hC111 : C111 = (C98.set g1.toNatClampNeg ((C98.getD g1.toNatClampNeg 0) + (1 : Int32)))) (hC115 : C115 = (C102.set (C98.getD g1.toNatClampNeg 0).toNatClampNeg (1 : Int32))) (hC124 : C124 = (C111.set g2.toNatClampNeg ((C111.getD g2.toNatClampNeg 0) + (1 : Int32)))) (hC128 : C128 = (C115.set (C111.getD g2.toNatClampNeg 0).toNatClampNeg (2 : Int32))) (hC137 : C137 = (C124.set g3.toNatClampNeg ((C124.getD g3.toNatClampNeg 0) + (1 : Int32)))) (htt : tt = (C85.getD 4 0)) (y0 : (0 : Int32) < g0) (y1 : (0 : Int32) < g1) (y2 : (0 : Int32) < g2) (y3 : (0 : Int32) < g3) : ¬ (C124.getD g3.toNatClampNeg 0) < 0 ∧ (C124.getD g3.toNatClampNeg 0) < tt := by
  subst hC137 hC128 hC124 hC115 hC111 hC102 hC98 hC95 hC0 htt hC85 hC79 hC73 hC68 hC63 hC48 hC33 hC18 hC15
  rcases hg0 with rfl | rfl | rfl | rfl <;> rcases hg1 with rfl | rfl | rfl | rfl <;> rcases hg2 with rfl | rfl | rfl | rfl <;> rcases hg3 with rfl | rfl | rfl | rfl <;> revert y0 y1 y2 y3 <;> decide +kernel
set_option maxHeartbeats 40000000 in
theorem own_mb4 {g0 : Int32} {g1 : Int32} {g2 : Int32} {g3 : Int32} {C15 : List Int32} {C18 : List Int32} {C33 : List Int32} {C48 : List Int32} {C63 : List Int32} {C68 : List Int32} {C73 : List Int32} {C79 : List Int32} {C85 : List Int32} {C0 : List Int32} {C95 : List Int32} {C98 : List Int32} {C102 : List Int32} {C111 : List Int32} {C115 : List Int32} {C194 : List Int32} {tt : Int32} (hg0 : own_G g0) (hg1 : own_G g1) (hg2 : own_G g2) (hg3 : own_G g3) (hC15 : C15 = [(0 : Int32), (0 : Int32), (0 : Int32), (0 : Int32)]) (hC18 : C18 = (C15.set g0.toNatClampNeg ((C15.getD g0.toNatClampNeg 0) + (1 : Int32)))) (hC33 : C33 = (C18.set g1.toNatClampNeg ((C18.getD g1.toNatClampNeg 0) + (1 : Int32)))) (hC48 : C48 = (C33.set g2.toNatClampNeg ((C33.getD g2.toNatClampNeg 0) + (1 : Int32)))) (hC63 : C63 = (C48.set g3.toNatClampNeg ((C48.getD g3.toNatClampNeg 0) + (1 : Int32)))) (hC68 : C68 = [(0 : Int32), (0 : Int32), (0 : Int32), (0 : Int32), (0 : Int32)]) (hC73 : C73 = (C68.set 2 ((C68.getD 1 0) + (C63.getD 1 0)))) (hC79 : C79 = (C73.set 3 ((C73.getD 2 0) + (C63.getD 2 0)))) (hC85 : C85 = (C79.set 4 ((C79.getD 3 0) + (C63.getD 3 0)))) (hC0 : C0 = (List.replicate tt.toNatClampNeg 0)) (hC95 : C95 = [(C85.getD 0 0), (C85.getD 1 0), (C85.getD 2 0), (C85.getD 3 0)]) (hC98 : C98 = (C95.set g0.toNatClampNeg ((C95.getD g0.toNatClampNeg 0) + (1 : Int32)))) (hC102 : C102 = (C0.set (C95.getD g0.toNatClampNeg 0).toNatClampNeg (0 : Int32))) (hC111 : C111 = (C98.set g1.toNatClampNeg ((C98.getD g1.toNatClampNeg 0) + (1 : Int32)))) (hC115 : C115 = (C102.set (C98.getD g1.toNatClampNeg 0).toNatClampNeg (1 : Int32))) (hC194 : C194 = (C111.set g3.toNatClampNeg ((C111.getD g3.toNatClampNeg 0) + (1 : Int32)))) (htt : tt = (C85.getD 4 0)) (y0 : (0 : Int32) < g0) (y1 : (0 : Int32) < g1) (y2 : ¬ ((0 : Int32) < g2)) (y3 : (0 : Int32) < g3) : ¬ (C111.getD g3.toNatClampNeg 0) < 0 ∧ (C111.getD g3.toNatClampNeg 0) < tt := by
  subst hC194 hC115 hC111 hC102 hC98 hC95 hC0 htt hC85 hC79 hC73 hC68 hC63 hC48 hC33 hC18 hC15
  rcases hg0 with rfl | rfl | rfl | rfl <;> rcases hg1 with rfl | rfl | rfl | rfl <;> rcases hg2 with rfl | rfl | rfl | rfl <;> rcases hg3 with rfl | rfl | rfl | rfl <;> revert y0 y1 y2 y3 <;> decide +kernel
set_option maxHeartbeats 40000000 in
theorem own_mb5 {g0 : Int32} {g1 : Int32} {g2 : Int32} {g3 : Int32} {C15 : List Int32} {C18 : List Int32} {C33 : List Int32} {C48 : List Int32} {C63 : List Int32} {C68 : List Int32} {C73 : List Int32} {C79 : List Int32} {C85 : List Int32} {C0 : List Int32} {C95 : List Int32} {C98 : List Int32} {C102 : List Int32} {C251 : List Int32} {tt : Int32} (hg0 : own_G g0) (hg1 : own_G g1) (hg2 : own_G g2) (hg3 : own_G g3) (hC15 : C15 = [(0 : Int32), (0 : Int32), (0 : Int32), (0 : Int32)]) (hC18 : C18 = (C15.set g0.toNatClampNeg ((C15.getD g0.toNatClampNeg 0) + (1 : Int32)))) (hC33 : C33 = (C18.set g1.toNatClampNeg ((C18.getD g1.toNatClampNeg 0) + (1 : Int32)))) (hC48 : C48 = (C33.set g2.toNatClampNeg ((C33.getD g2.toNatClampNeg 0) + (1 : Int32)))) (hC63 : C63 = (C48.set g3.toNatClampNeg ((C48.getD g3.toNatClampNeg 0) + (1 : Int32)))) (hC68 : C68 = [(0 : Int32), (0 : Int32), (0 : Int32), (0 : Int32), (0 : Int32)]) (hC73 : C73 = (C68.set 2 ((C68.getD 1 0) + (C63.getD 1 0)))) (hC79 : C79 = (C73.set 3 ((C73.getD 2 0) + (C63.getD 2 0)))) (hC85 : C85 = (C79.set 4 ((C79.getD 3 0) + (C63.getD 3 0)))) (hC0 : C0 = (List.replicate tt.toNatClampNeg 0)) (hC95 : C95 = [(C85.getD 0 0), (C85.getD 1 0), (C85.getD 2 0), (C85.getD 3 0)]) (hC98 : C98 = (C95.set g0.toNatClampNeg ((C95.getD g0.toNatClampNeg 0) + (1 : Int32)))) (hC102 : C102 = (C0.set (C95.getD g0.toNatClampNeg 0).toNatClampNeg (0 : Int32))) (hC251 : C251 = (C98.set g2.toNatClampNeg ((C98.getD g2.toNatClampNeg 0) + (1 : Int32)))) (htt : tt = (C85.getD 4 0)) (y0 : (0 : Int32) < g0) (y1 : ¬ ((0 : Int32) < g1)) (y2 : (0 : Int32) < g2) : ¬ (C98.getD g2.toNatClampNeg 0) < 0 ∧ (C98.getD g2.toNatClampNeg 0) < tt := by
  subst hC251 hC102 hC98 hC95 hC0 htt hC85 hC79 hC73 hC68 hC63 hC48 hC33 hC18 hC15
  rcases hg0 with rfl | rfl | rfl | rfl <;> rcases hg1 with rfl | rfl | rfl | rfl <;> rcases hg2 with rfl | rfl | rfl | rfl <;> rcases hg3 with rfl | rfl | rfl | rfl <;> revert y0 y1 y2 <;> decide +kernel
set_option maxHeartbeats 40000000 in
theorem own_mb6 {g0 : Int32} {g1 : Int32} {g2 : Int32} {g3 : Int32} {C15 : List Int32} {C18 : List Int32} {C33 : List Int32} {C48 : List Int32} {C63 : List Int32} {C68 : List Int32} {C73 : List Int32} {C79 : List Int32} {C85 : List Int32} {C0 : List Int32} {C95 : List Int32} {C98 : List Int32} {C102 : List Int32} {C251 : List Int32} {C255 : List Int32} {C264 : List Int32} {tt : Int32} (hg0 : own_G g0) (hg1 : own_G g1) (hg2 : own_G g2) (hg3 : own_G g3) (hC15 : C15 = [(0 : Int32), (0 : Int32), (0 : Int32), (0 : Int32)]) (hC18 : C18 = (C15.set g0.toNatClampNeg ((C15.getD g0.toNatClampNeg 0) + (1 : Int32)))) (hC33 : C33 = (C18.set g1.toNatClampNeg ((C18.getD g1.toNatClampNeg 0) + (1 : Int32)))) (hC48 : C48 = (C33.set g2.toNatClampNeg ((C33.getD g2.toNatClampNeg 0) + (1 : Int32)))) (hC63 : C63 = (C48.set g3.toNatClampNeg ((C48.getD g3.toNatClampNeg 0) + (1 : Int32)))) (hC68 : C68 = [(0 : Int32), (0 : Int32), (0 : Int32), (0 : Int32), (0 : Int32)]) (hC73 : C73 = (C68.set 2 ((C68.getD 1 0) + (C63.getD 1 0)))) (hC79 : C79 = (C73.set 3 ((C73.getD 2 0) + (C63.getD 2 0)))) (hC85 : C85 = (C79.set 4 ((C79.getD 3 0) + (C63.getD 3 0)))) (hC0 : C0 = (List.replicate tt.toNatClampNeg 0)) (hC95 : C95 = [(C85.getD 0 0), (C85.getD 1 0), (C85.getD 2 0), (C85.getD 3 0)]) (hC98 : C98 = (C95.set g0.toNatClampNeg ((C95.getD g0.toNatClampNeg 0) + (1 : Int32)))) (hC102 : C102 = (C0.set (C95.getD g0.toNatClampNeg 0).toNatClampNeg (0 : Int32))) (hC251 : C251 = (C98.set g2.toNatClampNeg ((C98.getD g2.toNatClampNeg 0) + (1 : Int32)))) (hC255 : C255 = (C102.set (C98.getD g2.toNatClampNeg 0).toNatClampNeg (2 : Int32))) (hC264 : C264 = (C251.set g3.toNatClampNeg ((C251.getD g3.toNatClampNeg 0) + (1 : Int32)))) (htt : tt = (C85.getD 4 0)) (y0 : (0 : Int32) < g0) (y1 : ¬ ((0 : Int32) < g1)) (y2 : (0 : Int32) < g2) (y3 : (0 : Int32) < g3) : ¬ (C251.getD g3.toNatClampNeg 0) < 0 ∧ (C251.getD g3.toNatClampNeg 0) < tt := by
  subst hC264 hC255 hC251 hC102 hC98 hC95 hC0 htt hC85 hC79 hC73 hC68 hC63 hC48 hC33 hC18 hC15
  rcases hg0 with rfl | rfl | rfl | rfl <;> rcases hg1 with rfl | rfl | rfl | rfl <;> rcases hg2 with rfl | rfl | rfl | rfl <;> rcases hg3 with rfl | rfl | rfl | rfl <;> revert y0 y1 y2 y3 <;> decide +kernel
set_option maxHeartbeats 40000000 in
theorem own_mb7 {g0 : Int32} {g1 : Int32} {g2 : Int32} {g3 : Int32} {C15 : List Int32} {C18 : List Int32} {C33 : List Int32} {C48 : List Int32} {C63 : List Int32} {C68 : List Int32} {C73 : List Int32} {C79 : List Int32} {C85 : List Int32} {C0 : List Int32} {C95 : List Int32} {C98 : List Int32} {C102 : List Int32} {C321 : List Int32} {tt : Int32} (hg0 : own_G g0) (hg1 : own_G g1) (hg2 : own_G g2) (hg3 : own_G g3) (hC15 : C15 = [(0 : Int32), (0 : Int32), (0 : Int32), (0 : Int32)]) (hC18 : C18 = (C15.set g0.toNatClampNeg ((C15.getD g0.toNatClampNeg 0) + (1 : Int32)))) (hC33 : C33 = (C18.set g1.toNatClampNeg ((C18.getD g1.toNatClampNeg 0) + (1 : Int32)))) (hC48 : C48 = (C33.set g2.toNatClampNeg ((C33.getD g2.toNatClampNeg 0) + (1 : Int32)))) (hC63 : C63 = (C48.set g3.toNatClampNeg ((C48.getD g3.toNatClampNeg 0) + (1 : Int32)))) (hC68 : C68 = [(0 : Int32), (0 : Int32), (0 : Int32), (0 : Int32), (0 : Int32)]) (hC73 : C73 = (C68.set 2 ((C68.getD 1 0) + (C63.getD 1 0)))) (hC79 : C79 = (C73.set 3 ((C73.getD 2 0) + (C63.getD 2 0)))) (hC85 : C85 = (C79.set 4 ((C79.getD 3 0) + (C63.getD 3 0)))) (hC0 : C0 = (List.replicate tt.toNatClampNeg 0)) (hC95 : C95 = [(C85.getD 0 0), (C85.getD 1 0), (C85.getD 2 0), (C85.getD 3 0)]) (hC98 : C98 = (C95.set g0.toNatClampNeg ((C95.getD g0.toNatClampNeg 0) + (1 : Int32)))) (hC102 : C102 = (C0.set (C95.getD g0.toNatClampNeg 0).toNatClampNeg (0 : Int32))) (hC321 : C321 = (C98.set g3.toNatClampNeg ((C98.getD g3.toNatClampNeg 0) + (1 : Int32)))) (htt : tt = (C85.getD 4 0)) (y0 : (0 : Int32) < g0) (y1 : ¬ ((0 : Int32) < g1)) (y2 : ¬ ((0 : Int32) < g2)) (y3 : (0 : Int32) < g3) : ¬ (C98.getD g3.toNatClampNeg 0) < 0 ∧ (C98.getD g3.toNatClampNeg 0) < tt := by
  subst hC321 hC102 hC98 hC95 hC0 htt hC85 hC79 hC73 hC68 hC63 hC48 hC33 hC18 hC15
  rcases hg0 with rfl | rfl | rfl | rfl <;> rcases hg1 with rfl | rfl | rfl | rfl <;> rcases hg2 with rfl | rfl | rfl | rfl <;> rcases hg3 with rfl | rfl | rfl | rfl <;> revert y0 y1 y2 y3 <;> decide +kernel
set_option maxHeartbeats 40000000 in
theorem own_mb8 {g0 : Int32} {g1 : Int32} {g2 : Int32} {g3 : Int32} {C15 : List Int32} {C18 : List Int32} {C33 : List Int32} {C48 : List Int32} {C63 : List Int32} {C68 : List Int32} {C73 : List Int32} {C79 : List Int32} {C85 : List Int32} {C0 : List Int32} {C375 : List Int32} {C378 : List Int32} {tt : Int32} (hg0 : own_G g0) (hg1 : own_G g1) (hg2 : own_G g2) (hg3 : own_G g3) (hC15 : C15 = [(0 : Int32), (0 : Int32), (0 : Int32), (0 : Int32)]) (hC18 : C18 = (C15.set g0.toNatClampNeg ((C15.getD g0.toNatClampNeg 0) + (1 : Int32)))) (hC33 : C33 = (C18.set g1.toNatClampNeg ((C18.getD g1.toNatClampNeg 0) + (1 : Int32)))) (hC48 : C48 = (C33.set g2.toNatClampNeg ((C33.getD g2.toNatClampNeg 0) + (1 : Int32)))) (hC63 : C63 = (C48.set g3.toNatClampNeg ((C48.getD g3.toNatClampNeg 0) + (1 : Int32)))) (hC68 : C68 = [(0 : Int32), (0 : Int32), (0 : Int32), (0 : Int32), (0 : Int32)]) (hC73 : C73 = (C68.set 2 ((C68.getD 1 0) + (C63.getD 1 0)))) (hC79 : C79 = (C73.set 3 ((C73.getD 2 0) + (C63.getD 2 0)))) (hC85 : C85 = (C79.set 4 ((C79.getD 3 0) + (C63.getD 3 0)))) (hC0 : C0 = (List.replicate tt.toNatClampNeg 0)) (hC375 : C375 = [(C85.getD 0 0), (C85.getD 1 0), (C85.getD 2 0), (C85.getD 3 0)]) (hC378 : C378 = (C375.set g1.toNatClampNeg ((C375.getD g1.toNatClampNeg 0) + (1 : Int32)))) (htt : tt = (C85.getD 4 0)) (y0 : ¬ ((0 : Int32) < g0)) (y1 : (0 : Int32) < g1) : ¬ (C375.getD g1.toNatClampNeg 0) < 0 ∧ (C375.getD g1.toNatClampNeg 0) < tt := by
  subst hC378 hC375 hC0 htt hC85 hC79 hC73 hC68 hC63 hC48 hC33 hC18 hC15
  rcases hg0 with rfl | rfl | rfl | rfl <;> rcases hg1 with rfl | rfl | rfl | rfl <;> rcases hg2 with rfl | rfl | rfl | rfl <;> rcases hg3 with rfl | rfl | rfl | rfl <;> revert y0 y1 <;> decide +kernel
set_option maxHeartbeats 40000000 in
theorem own_mb9 {g0 : Int32} {g1 : Int32} {g2 : Int32} {g3 : Int32} {C15 : List Int32} {C18 : List Int32} {C33 : List Int32} {C48 : List Int32} {C63 : List Int32} {C68 : List Int32} {C73 : List Int32} {C79 : List Int32} {C85 : List Int32} {C0 : List Int32} {C375 : List Int32} {C378 : List Int32} {C382 : List Int32} {C391 : List Int32} {tt : Int32} (hg0 : own_G g0) (hg1 : own_G g1) (hg2 : own_G g2) (hg3 : own_G g3) (hC15 : C15 = [(0 : Int32), (0 : Int32), (0 : Int32), (0 : Int32)]) (hC18 : C18 = (C15.set g0.toNatClampNeg ((C15.getD g0.toNatClampNeg 0) + (1 : Int32)))) (hC33 : C33 = (C18.set g1.toNatClampNeg ((C18.getD g1.toNatClampNeg 0) + (1 : Int32)))) (hC48 : C48 = (C33.set g2.toNatClampNeg ((C33.getD g2.toNatClampNeg 0) + (1 : Int32)))) (hC63 : C63 = (C48.set g3.toNatClampNeg ((C48.getD g3.toNatClampNeg 0) + (1 : Int32)))) (hC68 : C68 = [(0 : Int32), (0 : Int32), (0 : Int32), (0 : Int32), (0 : Int32)]) (hC73 : C73 = (C68.set 2 ((C68.getD 1 0) + (C63.getD 1 0)))) (hC79 : C79 = (C73.set 3 ((C73.getD 2 0) + (C63.getD 2 0)))) (hC85 : C85 = (C79.set 4 ((C79.getD 3 0) + (C63.getD 3 0)))) (hC0 : C0 = (List.replicate tt.toNatClampNeg 0)) (hC375 : C375 = [(C85.getD 0 0), (C85.getD 1 0), (C85.getD 2 0), (C85.getD 3 0)]) (hC378 : C378 = (C375.set g1.toNatClampNeg ((C375.getD g1.toNatClampNeg 0) + (1 : Int32)))) (hC382 : C382 = (C0.set (C375.getD g1.toNatClampNeg 0).toNatClampNeg (1 : Int32))) (hC391 : C391 = (C378.set g2.toNatClampNeg ((C378.getD g2.toNatClampNeg 0) + (1 : Int32)))) (htt : tt = (C85.getD 4 0)) (y0 : ¬ ((0 : Int32) < g0)) (y1 : (0 : Int32) < g1) (y2 : (0 : Int32) < g2) : ¬ (C378.getD g2.toNatClampNeg 0) < 0 ∧ (C378.getD g2.toNatClampNeg 0) < tt := by
  subst hC391 hC382 hC378 hC375 hC0 htt hC85 hC79 hC73 hC68 hC63 hC48 hC33 hC18 hC15
  rcases hg0 with rfl | rfl | rfl | rfl <;> rcases hg1 with rfl | rfl | rfl | rfl <;> rcases hg2 with rfl | rfl | rfl | rfl <;> rcases hg3 with rfl | rfl | rfl | rfl <;> revert y0 y1 y2 <;> decide +kernel
set_option maxHeartbeats 40000000 in
theorem own_mb10 {g0 : Int32} {g1 : Int32} {g2 : Int32} {g3 : Int32} {C15 : List Int32} {C18 : List Int32} {C33 : List Int32} {C48 : List Int32} {C63 : List Int32} {C68 : List Int32} {C73 : List Int32} {C79 : List Int32} {C85 : List Int32} {C0 : List Int32} {C375 : List Int32} {C378 : List Int32} {C382 : List Int32} {C391 : List Int32} {C395 : List Int32} {C404 : List Int32} {tt : Int32} (hg0 : own_G g0) (hg1 : own_G g1) (hg2 : own_G g2) (hg3 : own_G g3) (hC15 : C15 = [(0 : Int32), (0 : Int32), (0 : Int32), (0 : Int32)]) (hC18 : C18 = (C15.set g0.toNatClampNeg ((C15.getD g0.toNatClampNeg 0) + (1 : Int32)))) (hC33 : C33 = (C18.set g1.toNatClampNeg ((C18.getD g1.toNatClampNeg 0) + (1 : Int32)))) (hC48 : C48 = (C33.set g2.toNatClampNeg ((C33.getD g2.toNatClampNeg 0) + (1 : Int32)))) (hC63 : C63 = (C48.set g3.toNatClampNeg ((C48.getD g3.toNatClampNeg 0) + (1 : Int32)))) (hC68 : C68 = [(0 : Int32), (0 : Int32), (0 : Int32), (0 : Int32), (0 : Int32)]) (hC73 : C73 = (C68.set 2 ((C68.getD 1 0) + (C63.getD 1 0)))) (hC79 : C79 = (C73.set 3 ((C73.getD 2 0) + (C63.getD 2 0)))) (hC85 : C85 = (C79.set 4 ((C79.getD 3 0) + (C63.getD 3 0)))) (hC0 : C0 = (List.replicate tt.toNatClampNeg 0)) (hC375 : C375 = [(C85.getD 0 0), (C85.getD 1 0), (C85.getD 2 0), (C85.getD 3 0)]) (hC378 : C378 = (C375.set g1.toNatClampNeg ((C375.getD g1.toNatClampNeg 0) + (1 : Int32)))) (hC382 : C382 = (C0.set (C375.getD g1.toNatClampNeg 0).toNatClampNeg (1 : Int32))) (hC391 : C391 = (C378.set g2.toNatClampNeg ((C378.getD g2.toNatClampNeg 0) + (1 : Int32)))) (hC395 : C395 = (C382.set (C378.getD g2.toNatClampNeg 0).toNatClampNeg (2 : Int32))) (hC404 : C404 = (C391.set g3.toNatClampNeg ((C391.getD g3.toNatClampNeg 0) + (1 : Int32)))) (htt : tt = (C85.getD 4 0)) (y0 : ¬ ((0 : Int32) < g0)) (y1 : (0 : Int32) < g1) (y2 : (0 : Int32) < g2) (y3 : (0 : Int32) < g3) : ¬ (C391.getD g3.toNatClampNeg 0) < 0 ∧ (C391.getD g3.toNatClampNeg 0) < tt := by
  subst hC404 hC395 hC391 hC382 hC378 hC375 hC0 htt hC85 hC79 hC73 hC68 hC63 hC48 hC33 hC18 hC15
  rcases hg0 with rfl | rfl | rfl | rfl <;> rcases hg1 with rfl | rfl | rfl | rfl <;> rcases hg2 with rfl | rfl | rfl | rfl <;> rcases hg3 with rfl | rfl | rfl | rfl <;> revert y0 y1 y2 y3 <;> decide +kernel
set_option maxHeartbeats 40000000 in
theorem own_mb11 {g0 : Int32} {g1 : Int32} {g2 : Int32} {g3 : Int32} {C15 : List Int32} {C18 : List Int32} {C33 : List Int32} {C48 : List Int32} {C63 : List Int32} {C68 : List Int32} {C73 : List Int32} {C79 : List Int32} {C85 : List Int32} {C0 : List Int32} {C375 : List Int32} {C378 : List Int32} {C382 : List Int32} {C461 : List Int32} {tt : Int32} (hg0 : own_G g0) (hg1 : own_G g1) (hg2 : own_G g2) (hg3 : own_G g3) (hC15 : C15 = [(0 : Int32), (0 : Int32), (0 : Int32), (0 : Int32)]) (hC18 : C18 = (C15.set g0.toNatClampNeg ((C15.getD g0.toNatClampNeg 0) + (1 : Int32)))) (hC33 : C33 = (C18.set g1.toNatClampNeg ((C18.getD g1.toNatClampNeg 0) + (1 : Int32)))) (hC48 : C48 = (C33.set g2.toNatClampNeg ((C33.getD g2.toNatClampNeg 0) + (1 : Int32)))) (hC63 : C63 = (C48.set g3.toNatClampNeg ((C48.getD g3.toNatClampNeg 0) + (1 : Int32)))) (hC68 : C68 = [(0 : Int32), (0 : Int32), (0 : Int32), (0 : Int32), (0 : Int32)]) (hC73 : C73 = (C68.set 2 ((C68.getD 1 0) + (C63.getD 1 0)))) (hC79 : C79 = (C73.set 3 ((C73.getD 2 0) + (C63.getD 2 0)))) (hC85 : C85 = (C79.set 4 ((C79.getD 3 0) + (C63.getD 3 0)))) (hC0 : C0 = (List.replicate tt.toNatClampNeg 0)) (hC375 : C375 = [(C85.getD 0 0), (C85.getD 1 0), (C85.getD 2 0), (C85.getD 3 0)]) (hC378 : C378 = (C375.set g1.toNatClampNeg ((C375.getD g1.toNatClampNeg 0) + (1 : Int32)))) (hC382 : C382 = (C0.set (C375.getD g1.toNatClampNeg 0).toNatClampNeg (1 : Int32))) (hC461 : C461 = (C378.set g3.toNatClampNeg ((C378.getD g3.toNatClampNeg 0) + (1 : Int32)))) (htt : tt = (C85.getD 4 0)) (y0 : ¬ ((0 : Int32) < g0)) (y1 : (0 : Int32) < g1) (y2 : ¬ ((0 : Int32) < g2)) (y3 : (0 : Int32) < g3) : ¬ (C378.getD g3.toNatClampNeg 0) < 0 ∧ (C378.getD g3.toNatClampNeg 0) < tt := by
  subst hC461 hC382 hC378 hC375 hC0 htt hC85 hC79 hC73 hC68 hC63 hC48 hC33 hC18 hC15
  rcases hg0 with rfl | rfl | rfl | rfl <;> rcases hg1 with rfl | rfl | rfl | rfl <;> rcases hg2 with rfl | rfl | rfl | rfl <;> rcases hg3 with rfl | rfl | rfl | rfl <;> revert y0 y1 y2 y3 <;> decide +kernel
set_option maxHeartbeats 40000000 in
theorem own_mb12 {g0 : Int32} {g1 : Int32} {g2 : Int32} {g3 : Int32} {C15 : List Int32} {C18 : List Int32} {C33 : List Int32} {C48 : List Int32} {C63 : List Int32} {C68 : List Int32} {C73 : List Int32} {C79 : List Int32} {C85 : List Int32} {C0 : List Int32} {C515 : List Int32} {C518 : List Int32} {tt : Int32} (hg0 : own_G g0) (hg1 : own_G g1) (hg2 : own_G g2) (hg3 : own_G g3) (hC15 : C15 = [(0 : Int32), (0 : Int32), (0 : Int32), (0 : Int32)]) (hC18 : C18 = (C15.set g0.toNatClampNeg ((C15.getD g0.toNatClampNeg 0) + (1 : Int32)))) (hC33 : C33 = (C18.set g1.toNatClampNeg ((C18.getD g1.toNatClampNeg 0) + (1 : Int32)))) (hC48 : C48 = (C33.set g2.toNatClampNeg ((C33.getD g2.toNatClampNeg 0) + (1 : Int32)))) (hC63 : C63 = (C48.set g3.toNatClampNeg ((C48.getD g3.toNatClampNeg 0) + (1 : Int32)))) (hC68 : C68 = [(0 : Int32), (0 : Int32), (0 : Int32), (0 : Int32), (0 : Int32)]) (hC73 : C73 = (C68.set 2 ((C68.getD 1 0) + (C63.getD 1 0)))) (hC79 : C79 = (C73.set 3 ((C73.getD 2 0) + (C63.getD 2 0)))) (hC85 : C85 = (C79.set 4 ((C79.getD 3 0) + (C63.getD 3 0)))) (hC0 : C0 = (List.replicate tt.toNatClampNeg 0)) (hC515 : C515 = [(C85.getD 0 0), (C85.getD 1 0), (C85.getD 2 0), (C85.getD 3 0)]) (hC518 : C518 = (C515.set g2.toNatClampNeg ((C515.getD g2.toNatClampNeg 0) + (1 : Int32)))) (htt : tt = (C85.getD 4 0)) (y0 : ¬ ((0 : Int32) < g0)) (y1 : ¬ ((0 : Int32) < g1)) (y2 : (0 : Int32) < g2) : ¬ (C515.getD g2.toNatClampNeg 0) < 0 ∧ (C515.getD g2.toNatClampNeg 0) < tt := by
  subst hC518 hC515 hC0 htt hC85 hC79 hC73 hC68 hC63 hC48 hC33 hC18 hC15
  rcases hg0 with rfl | rfl | rfl | rfl <;> rcases hg1 with rfl | rfl | rfl | rfl <;> rcases hg2 with rfl | rfl | rfl | rfl <;> rcases hg3 with rfl | rfl | rfl | rfl <;> revert y0 y1 y2 <;> decide +kernel
set_option maxHeartbeats 40000000 in
theorem own_mb13 {g0 : Int32} {g1 : Int32} {g2 : Int32} {g3 : Int32} {C15 : List Int32} {C18 : List Int32} {C33 : List Int32} {C48 : List Int32} {C63 : List Int32} {C68 : List Int32} {C73 : List Int32} {C79 : List Int32} {C85 : List Int32} {C0 : List Int32} {C515 : List Int32} {C518 : List Int32} {C522 : List Int32} {C531 : List Int32} {tt : Int32} (hg0 : own_G g0) (hg1 : own_G g1) (hg2 : own_G g2) (hg3 : own_G g3) (hC15 : C15 = [(0 : Int32), (0 : Int32), (0 : Int32), (0 : Int32)]) (hC18 : C18 = (C15.set g0.toNatClampNeg ((C15.getD g0.toNatClampNeg 0) + (1 : Int32)))) (hC33 : C33 = (C18.set g1.toNatClampNeg ((C18.getD g1.toNatClampNeg 0) + (1 : Int32)))) (hC48 : C48 = (C33.set g2.toNatClampNeg ((C33.getD g2.toNatClampNeg 0) + (1 : Int32)))) (hC63 : C63 = (C48.set g3.toNatClampNeg ((C48.getD g3.toNatClampNeg 0) + (1 : Int32)))) (hC68 : C68 = [(0 : Int32), (0 : Int32), (0 : Int32), (0 : Int32), (0 : Int32)]) (hC73 : C73 = (C68.set 2 ((C68.getD 1 0) + (C63.getD 1 0)))) (hC79 : C79 = (C73.set 3 ((C73.getD 2 0) + (C63.getD 2 0)))) (hC85 : C85 = (C79.set 4 ((C79.getD 3 0) + (C63.getD 3 0)))) (hC0 : C0 = (List.replicate tt.toNatClampNeg 0)) (hC515 : C515 = [(C85.getD 0 0), (C85.getD 1 0), (C85.getD 2 0), (C85.getD 3 0)]) (hC518 : C518 = (C515.set g2.toNatClampNeg ((C515.getD g2.toNatClampNeg 0) + (1 : Int32)))) (hC522 : C522 = (C0.set (C515.getD g2.toNatClampNeg 0).toNatClampNeg (2 : Int32))) (hC531 : C531 = (C518.set g3.toNatClampNeg ((C518.getD g3.toNatClampNeg 0) + (1 : Int32)))) (htt : tt = (C85.getD 4 0)) (y0 : ¬ ((0 : Int32) < g0)) (y1 : ¬ ((0 : Int32) < g1)) (y2 : (0 : Int32) < g2) (y3 : (0 : Int32) < g3) : ¬ (C518.getD g3.toNatClampNeg 0) < 0 ∧ (C518.getD g3.toNatClampNeg 0) < tt := by
  subst hC531 hC522 hC518 hC515 hC0 htt hC85 hC79 hC73 hC68 hC63 hC48 hC33 hC18 hC15
  rcases hg0 with rfl | rfl | rfl | rfl <;> rcases hg1 with rfl | rfl | rfl | rfl <;> rcases hg2 with rfl | rfl | rfl | rfl <;> rcases hg3 with rfl | rfl | rfl | rfl <;> revert y0 y1 y2 y3 <;> decide +kernel
set_option maxHeartbeats 40000000 in
theorem own_mb14 {g0 : Int32} {g1 : Int32} {g2 : Int32} {g3 : Int32} {C15 : List Int32} {C18 : List Int32} {C33 : List Int32} {C48 : List Int32} {C63 : List Int32} {C68 : List Int32} {C73 : List Int32} {C79 : List Int32} {C85 : List Int32} {C0 : List Int32} {C585 : List Int32} {C588 : List Int32} {tt : Int32} (hg0 : own_G g0) (hg1 : own_G g1) (hg2 : own_G g2) (hg3 : own_G g3) (hC15 : C15 = [(0 : Int32), (0 : Int32), (0 : Int32), (0 : Int32)]) (hC18 : C18 = (C15.set g0.toNatClampNeg ((C15.getD g0.toNatClampNeg 0) + (1 : Int32)))) (hC33 : C33 = (C18.set g1.toNatClampNeg ((C18.getD g1.toNatClampNeg 0) + (1 : Int32)))) (hC48 : C48 = (C33.set g2.toNatClampNeg ((C33.getD g2.toNatClampNeg 0) + (1 : Int32)))) (hC63 : C63 = (C48.set g3.toNatClampNeg ((C48.getD g3.toNatClampNeg 0) + (1 : Int32)))) (hC68 : C68 = [(0 : Int32), (0 : Int32), (0 : Int32), (0 : Int32), (0 : Int32)]) (hC73 : C73 = (C68.set 2 ((C68.getD 1 0) + (C63.getD 1 0)))) (hC79 : C79 = (C73.set 3 ((C73.getD 2 0) + (C63.getD 2 0)))) (hC85 : C85 = (C79.set 4 ((C79.getD 3 0) + (C63.getD 3 0)))) (hC0 : C0 = (List.replicate tt.toNatClampNeg 0)) (hC585 : C585 = [(C85.getD 0 0), (C85.getD 1 0), (C85.getD 2 0), (C85.getD 3 0)]) (hC588 : C588 = (C585.set g3.toNatClampNeg ((C585.getD g3.toNatClampNeg 0) + (1 : Int32)))) (htt : tt = (C85.getD 4 0)) (y0 : ¬ ((0 : Int32) < g0)) (y1 : ¬ ((0 : Int32) < g1)) (y2 : ¬ ((0 : Int32) < g2)) (y3 : (0 : Int32) < g3) : ¬ (C585.getD g3.toNatClampNeg 0) < 0 ∧ (C585.getD g3.toNatClampNeg 0) < tt := by
  subst hC588 hC585 hC0 htt hC85 hC79 hC73 hC68 hC63 hC48 hC33 hC18 hC15
  rcases hg0 with rfl | rfl | rfl | rfl <;> rcases hg1 with rfl | rfl | rfl | rfl <;> rcases hg2 with rfl | rfl | rfl | rfl <;> rcases hg3 with rfl | rfl | rfl | rfl <;> revert y0 y1 y2 y3 <;> decide +kernel
set_option maxHeartbeats 40000000 in
theorem own_end0 {g0 : Int32} {g1 : Int32} {g2 : Int32} {g3 : Int32} {C15 : List Int32} {C18 : List Int32} {C33 : List Int32} {C48 : List Int32} {C63 : List Int32} {C68 : List Int32} {C73 : List Int32} {C79 : List Int32} {C85 : List Int32} {C0 : List Int32} {C95 : List Int32} {C98 : List Int32} {C102 : List Int32} {C111 : List Int32} {C115 : List Int32} {C124 : List Int32} {C128 : List Int32} {C137 : List Int32} {C141 : List Int32} {tt : Int32} (hg0 : own_G g0) (hg1 : own_G g1) (hg2 : own_G g2) (hg3 : own_G g3) (hC15 : C15 = [(0 : Int32), (0 : Int32), (0 : Int32), (0 : Int32)]) (hC18 : C18 = (C15.set g0.toNatClampNeg ((C15.getD g0.toNatClampNeg 0) + (1 : Int32)))) (hC33 : C33 = (C18.set g1.toNatClampNeg ((C18.getD g1.toNatClampNeg 0) + (1 : Int32)))) (hC48 : C48 = (C33.set g2.toNatClampNeg ((C33.getD g2.toNatClampNeg 0) + (1 : Int32)))) (hC63 : C63 = (C48.set g3.toNatClampNeg ((C48.getD g3.toNatClampNeg 0) + (1 : Int32)))) (hC68 : C68 = [(0 : Int32), (0 : Int32), (0 : Int32), (0 : Int32), (0 : Int32)]) (hC73 : C73 = (C68.set 2 ((C68.getD 1 0) + (C63.getD 1 0)))) (hC79 : C79 = (C73.set 3 ((C73.getD 2 0) + (C63.getD 2 0)))) (hC85 : C85 = (C79.set 4 ((C79.getD 3 0) + (C63.getD 3 0)))) (hC0 : C0 = (List.replicate tt.toNatClampNeg 0)) (hC95 : C95 = [(C85.getD 0 0), (C85.getD 1 0), (C85.getD 2 0), (C85.getD 3 0)]) (hC98 : C98 = (C95.set g0.toNatClampNeg ((C95.getD g0.toNatClampNeg 0) + (1 : Int32)))) (hC102 : C102 = (C0.set (C95.getD g0.toNatClampNeg 0).toNatClampNeg (0 : Int32))) (hC111 : C111 = (C98.set g1.toNatClampNeg ((C98.getD g1.toNatClampNeg 0) + (1 : Int32)))) (hC115 : C115 = (C102.set (C98.getD g1.toNatClampNeg 0).toNatClampNeg (1 : Int32))) (hC124 : C124 = (C111.set g2.toNatClampNeg ((C111.getD g2.toNatClampNeg 0) + (1 : Int32)))) (hC128 : C128 = (C115.set (C111.getD g2.toNatClampNeg 0).toNatClampNeg (2 : Int32))) (hC137 : C137 = (C124.set g3.toNatClampNeg ((C124.getD g3.toNatClampNeg 0) + (1 : Int32)))) (hC141 : C141 = (C128.set (C124.getD g3.toNatClampNeg 0).toNatClampNeg (3 : Int32))) (htt : tt = (C85.getD 4 0)) (y0 : (0 : Int32) < g0) (y1 : (0 : Int32) < g1) (y2 : (0 : Int32) < g2) (y3 : (0 : Int32) < g3) : C85 = (own_SL g0 g1 g2 g3) ∧ C141 = (own_ML g0 g1 g2 g3) ∧ True := by
  subst hC141 hC137 hC128 hC124 hC115 hC111 hC102 hC98 hC95 hC0 htt hC85 hC79 hC73 hC68 hC63 hC48 hC33 hC18 hC15
  rcases hg0 with rfl | rfl | rfl | rfl <;> rcases hg1 with rfl | rfl | rfl | rfl <;> rcases hg2 with rfl | rfl | rfl | rfl <;> rcases hg3 with rfl | rfl | rfl | rfl <;> revert y0 y1 y2 y3 <;> decide +kernel
set_option maxHeartbeats 40000000 in
theorem own_end1 {g0 : Int32} {g1 : Int32} {g2 : Int32} {g3 : Int32} {C15 : List Int32} {C18 : List Int32} {C33 : List Int32} {C48 : List Int32} {C63 : List Int32} {C68 : List Int32} {C73 : List Int32} {C79 : List Int32} {C85 : List Int32} {C0 : List Int32} {C95 : List Int32} {C98 : List Int32} {C102 : List Int32} {C111 : List Int32} {C115 : List Int32} {C124 : List Int32} {C128 : List Int32} {tt : Int32} (hg0 : own_G g0) (hg1 : own_G g1) (hg2 : own_G g2) (hg3 : own_G g3) (hC15 : C15 = [(0 : Int32), (0 : Int32), (0 : Int32), (0 : Int32)]) (hC18 : C18 = (C15.set g0.toNatClampNeg ((C15.getD g0.toNatClampNeg 0) + (1 : Int32)))) (hC33 : C33 = (C18.set g1.toNatClampNeg ((C18.getD g1.toNatClampNeg 0) + (1 : Int32)))) (hC48 : C48 = (C33.set g2.toNatClampNeg ((C33.getD g2.toNatClampNeg 0) + (1 : Int32)))) (hC63 : C63 = (C48.set g3.toNatClampNeg ((C48.getD g3.toNatClampNeg 0) + (1 : Int32)))) (hC68 : C68 = [(0 : Int32), (0 : Int32), (0 : Int32), (0 : Int32), (0 : Int32)]) (hC73 : C73 = (C68.set 2 ((C68.getD 1 0) + (C63.getD 1 0)))) (hC79 : C79 = (C73.set 3 ((C73.getD 2 0) + (C63.getD 2 0)))) (hC85 : C85 = (C79.set 4 ((C79.getD 3 0) + (C63.getD 3 0)))) (hC0 : C0 = (List.replicate tt.toNatClampNeg 0)) (hC95 : C95 = [(C85.getD 0 0), (C85.getD 1 0), (C85.getD 2 0), (C85.getD 3 0)]) (hC98 : C98 = (C95.set g0.toNatClampNeg ((C95.getD g0.toNatClampNeg 0) + (1 : Int32)))) (hC102 : C102 = (C0.set (C95.getD g0.toNatClampNeg 0).toNatClampNeg (0 : Int32))) (hC111 : C111 = (C98.set g1.toNatClampNeg ((C98.getD g1.toNatClampNeg 0) + (1 : Int32)))) (hC115 : C115 = (C102.set (C98.getD g1.toNatClampNeg 0).toNatClampNeg (1 : Int32))) (hC124 : C124 = (C111.set g2.toNatClampNeg ((C111.getD g2.toNatClampNeg 0) + (1 : Int32)))) (hC128 : C128 = (C115.set (C111.getD g2.toNatClampNeg 0).toNatClampNeg (2 : Int32))) (htt : tt = (C85.getD 4 0)) (y0 : (0 : Int32) < g0) (y1 : (0 : Int32) < g1) (y2 : (0 : Int32) < g2) (y3 : ¬ ((0 : Int32) < g3)) : C85 = (own_SL g0 g1 g2 g3) ∧ C128 = (own_ML g0 g1 g2 g3) ∧ True := by
  subst hC128 hC124 hC115 hC111 hC102 hC98 hC95 hC0 htt hC85 hC79 hC73 hC68 hC63 hC48 hC33 hC18 hC15
  rcases hg0 with rfl | rfl | rfl | rfl <;> rcases hg1 with rfl | rfl | rfl | rfl <;> rcases hg2 with rfl | rfl | rfl | rfl <;> rcases hg3 with rfl | rfl | rfl | rfl <;> revert y0 y1 y2 y3 <;> decide +kernel
set_option maxHeartbeats 40000000 in
theorem own_end2 {g0 : Int32} {g1 : Int32} {g2 : Int32} {g3 : Int32} {C15 : List Int32} {C18 : List Int32} {C33 : List Int32} {C48 : List Int32} {C63 : List Int32} {C68 : List Int32} {C73 : List Int32} {C79 : List Int32} {C85 : List Int32} {C0 : List Int32} {C95 : List Int32} {C98 : List Int32} {C102 : List Int32} {C111 : List Int32} {C115 : List Int32} {C194 : List Int32} {C198 : List Int32} {tt : Int32} (hg0 : own_G g0) (hg1 : own_G g1) (hg2 : own_G g2) (hg3 : own_G g3) (hC15 : C15 = [(0 : Int32), (0 : Int32), (0 : Int32), (0 : Int32)]) (hC18 : C18 = (C15.set g0.toNatClampNeg ((C15.getD g0.toNatClampNeg 0) + (1 : Int32)))) (hC33 : C33 = (C18.set g1.toNatClampNeg ((C18.getD g1.toNatClampNeg 0) + (1 : Int32)))) (hC48 : C48 = (C33.set g2.toNatClampNeg ((C33.getD g2.toNatClampNeg 0) + (1 : Int32)))) (hC63 : C63 = (C48.set g3.toNatClampNeg ((C48.getD g3.toNatClampNeg 0) + (1 : Int32)))) (hC68 : C68 = [(0 : Int32), (0 : Int32), (0 : Int32), (0 : Int32), (0 : Int32)]) (hC73 : C73 = (C68.set 2 ((C68.getD 1 0) + (C63.getD 1 0)))) (hC79 : C79 = (C73.set 3 ((C73.getD 2 0) + (C63.getD 2 0)))) (hC85 : C85 = (C79.set 4 ((C79.getD 3 0) + (C63.getD 3 0)))) (hC0 : C0 = (List.replicate tt.toNatClampNeg 0)) (hC95 : C95 = [(C85.getD 0 0), (C85.getD 1 0), (C85.getD 2 0), (C85.getD 3 0)]) (hC98 : C98 = (C95.set g0.toNatClampNeg ((C95.getD g0.toNatClampNeg 0) + (1 : Int32)))) (hC102 : C102 = (C0.set (C95.getD g0.toNatClampNeg 0).toNatClampNeg (0 : Int32))) (hC111 : C111 = (C98.set g1.toNatClampNeg ((C98.getD g1.toNatClampNeg 0) + (1 : Int32)))) (hC115 : C115 = (C102.set (C98.getD g1.toNatClampNeg 0).toNatClampNeg (1 : Int32))) (hC194 : C194 = (C111.set g3.toNatClampNeg ((C111.getD g3.toNatClampNeg 0) + (1 : Int32)))) (hC198 : C198 = (C115.set (C111.getD g3.toNatClampNeg 0).toNatClampNeg (3 : Int32))) (htt : tt = (C85.getD 4 0)) (y0 : (0 : Int32) < g0) (y1 : (0 : Int32) < g1) (y2 : ¬ ((0 : Int32) < g2)) (y3 : (0 : Int32) < g3) : C85 = (own_SL g0 g1 g2 g3) ∧ C198 = (own_ML g0 g1 g2 g3) ∧ True := by
  subst hC198 hC194 hC115 hC111 hC102 hC98 hC95 hC0 htt hC85 hC79 hC73 hC68 hC63 hC48 hC33 hC18 hC15
  rcases hg0 with rfl | rfl | rfl | rfl <;> rcases hg1 with rfl | rfl | rfl | rfl <;> rcases hg2 with rfl | rfl | rfl | rfl <;> rcases hg3 with rfl | rfl | rfl | rfl <;> revert y0 y1 y2 y3 <;> decide +kernel
set_option maxHeartbeats 40000000 in
theorem own_end3 {g0 : Int32} {g1 : Int32} {g2 : Int32} {g3 : Int32} {C15 : List Int32} {C18 : List Int32} {C33 : List Int32} {C48 : List Int32} {C63 : List Int32} {C68 : List Int32} {C73 : List Int32} {C79 : List Int32} {C85 : List Int32} {C0 : List Int32} {C95 : List Int32} {C98 : List Int32} {C102 : List Int32} {C111 : List Int32} {C115 : List Int32} {tt : Int32} (hg0 : own_G g0) (hg1 : own_G g1) (hg2 : own_G g2) (hg3 : own_G g3) (hC15 : C15 = [(0 : Int32), (0 : Int32), (0 : Int32), (0 : Int32)]) (hC18 : C18 = (C15.set g0.toNatClampNeg ((C15.getD g0.toNatClampNeg 0) + (1 : Int32)))) (hC33 : C33 = (C18.set g1.toNatClampNeg ((C18.getD g1.toNatClampNeg 0) + (1 : Int32)))) (hC48 : C48 = (C33.set g2.toNatClampNeg ((C33.getD g2.toNatClampNeg 0) + (1 : Int32)))) (hC63 : C63 = (C48.set g3.toNatClampNeg ((C48.getD g3.toNatClampNeg 0) + (1 : Int32)))) (hC68 : C68 = [(0 : Int32), (0 : Int32), (0 : Int32), (0 : Int32), (0 : Int32)]) (hC73 : C73 = (C68.set 2 ((C68.getD 1 0) + (C63.getD 1 0)))) (hC79 : C79 = (C73.set 3 ((C73.getD 2 0) + (C63.getD 2 0)))) (hC85 : C85 = (C79.set 4 ((C79.getD 3 0) + (C63.getD 3 0)))) (hC0 : C0 = (List.replicate tt.toNatClampNeg 0)) (hC95 : C95 = [(C85.getD 0 0), (C85.getD 1 0), (C85.getD 2 0), (C85.getD 3 0)]) (hC98 : C98 = (C95.set g0.toNatClampNeg ((C95.getD g0.toNatClampNeg 0) + (1 : Int32)))) (hC102 : C102 = (C0.set (C95.getD g0.toNatClampNeg 0).toNatClampNeg (0 : Int32))) (hC111 : C111 = (C98.set g1.toNatClampNeg ((C98.getD g1.toNatClampNeg 0) + (1 : Int32)))) (hC115 : C115 = (C102.set (C98.getD g1.toNatClampNeg 0).toNatClampNeg (1 : Int32))) (htt : tt = (C85.getD 4 0)) (y0 : (0 : Int32) < g0) (y1 : (0 : Int32) < g1) (y2 : ¬ ((0 : Int32) < g2)) (y3 : ¬ ((0 : Int32) < g3)) : C85 = (own_SL g0 g1 g2 g3) ∧ C115 = (own_ML g0 g1 g2 g3) ∧ True := by
  subst hC115 hC111 hC102 hC98 hC95 hC0 htt hC85 hC79 hC73 hC68 hC63 hC48 hC33 hC18 hC15
  rcases hg0 with rfl | rfl | rfl | rfl <;> rcases hg1 with rfl | rfl | rfl | rfl <;> rcases hg2 with rfl | rfl | rfl | rfl <;> rcases hg3 with rfl | rfl | rfl | rfl <;> revert y0 y1 y2 y3 <;> decide +kernel
set_option maxHeartbeats 40000000 in
theorem own_end4 {g0 : Int32} {g1 : Int32} {g2 : Int32} {g3 : Int32} {C15 : List Int32} {C18 : List Int32} {C33 : List Int32} {C48 : List Int32} {C63 : List Int32} {C68 : List Int32} {C73 : List Int32} {C79 : List Int32} {C85 : List Int32} {C0 : List Int32} {C95 : List Int32} {C98 : List Int32} {C102 : List Int32} {C251 : List Int32} {C255 : List Int32} {C264 : List Int32} {C268 : List Int32} {tt : Int32} (hg0 : own_G g0) (hg1 : own_G g1) (hg2 : own_G g2) (hg3 : own_G g3) (hC15 : C15 = [(0 : Int32), (0 : Int32), (0 : Int32), (0 : Int32)]) (hC18 : C18 = (C15.set g0.toNatClampNeg ((C15.getD g0.toNatClampNeg 0) + (1 : Int32)))) (hC33 : C33 = (C18.set g1.toNatClampNeg ((C18.getD g1.toNatClampNeg 0) + (1 : Int32)))) (hC48 : C48 = (C33.set g2.toNatClampNeg ((C33.getD g2.toNatClampNeg 0) + (1 : Int32)))) (hC63 : C63 = (C48.set g3.toNatClampNeg ((C48.getD g3.toNatClampNeg 0) + (1 : Int32)))) (hC68 : C68 = [(0 : Int32), (0 : Int32), (0 : Int32), (0 : Int32), (0 : Int32)]) (hC73 : C73 = (C68.set 2 ((C68.getD 1 0) + (C63.getD 1 0)))) (hC79 : C79 = (C73.set 3 ((C73.getD 2 0) + (C63.getD 2 0)))) (hC85 : C85 = (C79.set 4 ((C79.getD 3 0) + (C63.getD 3 0)))) (hC0 : C0 = (List.replicate tt.toNatClampNeg 0)) (hC95 : C95 = [(C85.getD 0 0), (C85.getD 1 0), (C85.getD 2 0), (C85.getD 3 0)]) (hC98 : C98 = (C95.set g0.toNatClampNeg ((C95.getD g0.toNatClampNeg 0) + (1 : Int32)))) (hC102 : C102 = (C0.set (C95.getD g0.toNatClampNeg 0).toNatClampNeg (0 : Int32))) (hC251 : C251 = (C98.set g2.toNatClampNeg ((C98.getD g2.toNatClampNeg 0) + (1 : Int32)))) (hC255 : C255 = (C102.set (C98.getD g2.toNatClampNeg 0).toNatClampNeg (2 : Int32))) (hC264 : C264 = (C251.set g3.toNatClampNeg ((C251.getD g3.toNatClampNeg 0) + (1 : Int32)))) (hC268 : C268 = (C255.set (C251.getD g3.toNatClampNeg 0).toNatClampNeg (3 : Int32))) (htt : tt = (C85.getD 4 0)) (y0 : (0 : Int32) < g0) (y1 : ¬ ((0 : Int32) < g1)) (y2 : (0 : Int32) < g2) (y3 : (0 : Int32) < g3) : C85 = (own_SL g0 g1 g2 g3) ∧ C268 = (own_ML g0 g1 g2 g3) ∧ True := by
  subst hC268 hC264 hC255 hC251 hC102 hC98 hC95 hC0 htt hC85 hC79 hC73 hC68 hC63 hC48 hC33 hC18 hC15
  rcases hg0 with rfl | rfl | rfl | rfl <;> rcases hg1 with rfl | rfl | rfl | rfl <;> rcases hg2 with rfl | rfl | rfl | rfl <;> rcases hg3 with rfl | rfl | rfl | rfl <;> revert y0 y1 y2 y3 <;> decide +kernel
set_option maxHeartbeats 40000000 in
theorem own_end5 {g0 : Int32} {g1 : Int32} {g2 : Int32} {g3 : Int32} {C15 : List Int32} {C18 : List Int32} {C33 : List Int32} {C48 : List Int32} {C63 : List Int32} {C68 : List Int32} {C73 : List Int32} {C79 : List Int32} {C85 : List Int32} {C0 : List Int32} {C95 : List Int32} {C98 : List Int32} {C102 : List Int32} {C251 : List Int32} {C255 : List Int32} {tt : Int32} (hg0 : own_G g0) (hg1 : own_G g1) (hg2 : own_G g2) (hg3 : own_G g3) (hC15 : C15 = [(0 : Int32), (0 : Int32), (0 : Int32), (0 : Int32)]) (hC18 : C18 = (C15.set g0.toNatClampNeg ((C15.getD g0.toNatClampNeg 0) + (1 : Int32)))) (hC33 : C33 = (C18.set g1.toNatClampNeg ((C18.getD g1.toNatClampNeg 0) + (1 : Int32)))) (hC48 : C48 = (C33.set g2.toNatClampNeg ((C33.getD g2.toNatClampNeg 0) + (1 : Int32)))) (hC63 : C63 = (C48.set g3.toNatClampNeg ((C48.getD g3.toNatClampNeg 0) + (1 : Int32)))) (hC68 : C68 = [(0 : Int32), (0 : Int32), (0 : Int32), (0 : Int32), (0 : Int32)]) (hC73 : C73 = (C68.set 2 ((C68.getD 1 0) + (C63.getD 1 0)))) (hC79 : C79 = (C73.set 3 ((C73.getD 2 0) + (C63.getD 2 0)))) (hC85 : C85 = (C79.set 4 ((C79.getD 3 0) + (C63.getD 3 0)))) (hC0 : C0 = (List.replicate tt.toNatClampNeg 0)) (hC95 : C95 = [(C85.getD 0 0), (C85.getD 1 0), (C85.getD 2 0), (C85.getD 3 0)]) (hC98 : C98 = (C95.set g0.toNatClampNeg ((C95.getD g0.toNatClampNeg 0) + (1 : Int32)))) (hC102 : C102 = (C0.set (C95.getD g0.toNatClampNeg 0).toNatClampNeg (0 : Int32))) (hC251 : C251 = (C98.set g2.toNatClampNeg ((C98.getD g2.toNatClampNeg 0) + (1 : Int32)))) (hC255 : C255 = (C102.set (C98.getD g2.toNatClampNeg 0).toNatClampNeg (2 : Int32))) (htt : tt = (C85.getD 4 0)) (y0 : (0 : Int32) < g0) (y1 : ¬ ((0 : Int32) < g1)) (y2 : (0 : Int32) < g2) (y3 : ¬ ((0 : Int32) < g3)) : C85 = (own_SL g0 g1 g2 g3) ∧ C255 = (own_ML g0 g1 g2 g3) ∧ True := by
  subst hC255 hC251 hC102 hC98 hC95 hC0 htt hC85 hC79 hC73 hC68 hC63 hC48 hC33 hC18 hC15
  rcases hg0 with rfl | rfl | rfl | rfl <;> rcases hg1 with rfl | rfl | rfl | rfl <;> rcases hg2 with rfl | rfl | rfl | rfl <;> rcases hg3 with rfl | rfl | rfl | rfl <;> revert y0 y1 y2 y3 <;> decide +kernel
set_option maxHeartbeats 40000000 in
theorem own_end6 {g0 : Int32} {g1 : Int32} {g2 : Int32} {g3 : Int32} {C15 : List Int32} {C18 : List Int32} {C33 : List Int32} {C48 : List Int32} {C63 : List Int32} {C68 : List Int32} {C73 : List Int32} {C79 : List Int32} {C85 : List Int32} {C0 : List Int32} {C95 : List Int32} {C98 : List Int32} {C102 : List Int32} {C321 : List Int32} {C325 : List Int32} {tt : Int32} (hg0 : own_G g0) (hg1 : own_G g1) (hg2 : own_G g2) (hg3 : own_G g3) (hC15 : C15 = [(0 : Int32), (0 : Int32), (0 : Int32), (0 : Int32)]) (hC18 : C18 = (C15.set g0.toNatClampNeg ((C15.getD g0.toNatClampNeg 0) + (1 : Int32)))) (hC33 : C33 = (C18.set g1.toNatClampNeg ((C18.getD g1.toNatClampNeg 0) + (1 : Int32)))) (hC48 : C48 = (C33.set g2.toNatClampNeg ((C33.getD g2.toNatClampNeg 0) + (1 : Int32)))) (hC63 : C63 = (C48.set g3.toNatClampNeg ((C48.getD g3.toNatClampNeg 0) + (1 : Int32)))) (hC68 : C68 = [(0 : Int32), (0 : Int32), (0 : Int32), (0 : Int32), (0 : Int32)]) (hC73 : C73 = (C68.set 2 ((C68.getD 1 0) + (C63.getD 1 0)))) (hC79 : C79 = (C73.set 3 ((C73.getD 2 0) + (C63.getD 2 0)))) (hC85 : C85 = (C79.set 4 ((C79.getD 3 0) + (C63.getD 3 0)))) (hC0 : C0 = (List.replicate tt.toNatClampNeg 0)) (hC95 : C95 = [(C85.getD 0 0), (C85.getD 1 0), (C85.getD 2 0), (C85.getD 3 0)]) (hC98 : C98 = (C95.set g0.toNatClampNeg ((C95.getD g0.toNatClampNeg 0) + (1 : Int32)))) (hC102 : C102 = (C0.set (C95.getD g0.toNatClampNeg 0).toNatClampNeg (0 : Int32))) (hC321 : C321 = (C98.set g3.toNatClampNeg ((C98.getD g3.toNatClampNeg 0) + (1 : Int32)))) (hC325 : C325 = (C102.set (C98.getD g3.toNatClampNeg 0).toNatClampNeg (3 : Int32))) (htt : tt = (C85.getD 4 0)) (y0 : (0 : Int32) < g0) (y1 : ¬ ((0 : Int32) < g1)) (y2 : ¬ ((0 : Int32) < g2)) (y3 : (0 : Int32) < g3) : C85 = (own_SL g0 g1 g2 g3) ∧ C325 = (own_ML g0 g1 g2 g3) ∧ True := by
  subst hC325 hC321 hC102 hC98 hC95 hC0 htt hC85 hC79 hC73 hC68 hC63 hC48 hC33 hC18 hC15
  rcases hg0 with rfl | rfl | rfl | rfl <;> rcases hg1 with rfl | rfl | rfl | rfl <;> rcases hg2 with rfl | rfl | rfl | rfl <;> rcases hg3 with rfl | rfl | rfl | rfl <;> revert y0 y1 y2 y3 <;> decide +kernel
set_option maxHeartbeats 40000000 in
theorem own_end7 {g0 : Int32} {g1 : Int32} {g2 : Int32} {g3 : Int32} {C15 : List Int32} {C18 : List Int32} {C33 : List Int32} {C48 : List Int32} {C63 : List Int32} {C68 : List Int32} {C73 : List Int32} {C79 : List Int32} {C85 : List Int32} {C0 : List Int32} {C95 : List Int32} {C98 : List Int32} {C102 : List Int32} {tt : Int32} (hg0 : own_G g0) (hg1 : own_G g1) (hg2 : own_G g2) (hg3 : own_G g3) (hC15 : C15 = [(0 : Int32), (0 : Int32), (0 : Int32), (0 : Int32)]) (hC18 : C18 = (C15.set g0.toNatClampNeg ((C15.getD g0.toNatClampNeg 0) + (1 : Int32)))) (hC33 : C33 = (C18.set g1.toNatClampNeg ((C18.getD g1.toNatClampNeg 0) + (1 : Int32)))) (hC48 : C48 = (C33.set g2.toNatClampNeg ((C33.getD g2.toNatClampNeg 0) + (1 : Int32)))) (hC63 : C63 = (C48.set g3.toNatClampNeg ((C48.getD g3.toNatClampNeg 0) + (1 : Int32)))) (hC68 : C68 = [(0 : Int32), (0 : Int32), (0 : Int32), (0 : Int32), (0 : Int32)]) (hC73 : C73 = (C68.set 2 ((C68.getD 1 0) + (C63.getD 1 0)))) (hC79 : C79 = (C73.set 3 ((C73.getD 2 0) + (C63.getD 2 0)))) (hC85 : C85 = (C79.set 4 ((C79.getD 3 0) + (C63.getD 3 0)))) (hC0 : C0 = (List.replicate tt.toNatClampNeg 0)) (hC95 : C95 = [(C85.getD 0 0), (C85.getD 1 0), (C85.getD 2 0), (C85.getD 3 0)]) (hC98 : C98 = (C95.set g0.toNatClampNeg ((C95.getD g0.toNatClampNeg 0) + (1 : Int32)))) (hC102 : C102 = (C0.set (C95.getD g0.toNatClampNeg 0).toNatClampNeg (0 : Int32))) (htt : tt = (C85.getD 4 0)) (y0 : (0 : Int32) < g0) (y1 : ¬ ((0 : Int32) < g1)) (y2 : ¬ ((0 : Int32) < g2)) (y3 : ¬ ((0 : Int32) < g3)) : C85 = (own_SL g0 g1 g2 g3) ∧ C102 = (own_ML g0 g1 g2 g3) ∧ True := by
  subst hC102 hC98 hC95 hC0 htt hC85 hC79 hC73 hC68 hC63 hC48 hC33 hC18 hC15
  rcases hg0 with rfl | rfl | rfl | rfl <;> rcases hg1 with rfl | rfl | rfl | rfl <;> rcases hg2 with rfl | rfl | rfl | rfl <;> rcases hg3 with rfl | rfl | rfl | rfl <;> revert y0 y1 y2 y3 <;> decide +kernel
set_option maxHeartbeats 40000000 in
theorem own_end8 {g0 : Int32} {g1 : Int32} {g2 : Int32} {g3 : Int32} {C15 : List Int32} {C18 : List Int32} {C33 : List Int32} {C48 : List Int32} {C63 : List Int32} {C68 : List Int32} {C73 : List Int32} {C79 : List Int32} {C85 : List Int32} {C0 : List Int32} {C375 : List Int32} {C378 : List Int32} {C382 : List Int32} {C391 : List Int32} {C395 : List Int32} {C404 : List Int32} {C408 : List Int32} {tt : Int32} (hg0 : own_G g0) (hg1 : own_G g1) (hg2 : own_G g2) (hg3 : own_G g3) (hC15 : C15 = [(0 : Int32), (0 : Int32), (0 : Int32), (0 : Int32)]) (hC18 : C18 = (C15.set g0.toNatClampNeg ((C15.getD g0.toNatClampNeg 0) + (1 : Int32)))) (hC33 : C33 = (C18.set g1.toNatClampNeg ((C18.getD g1.toNatClampNeg 0) + (1 : Int32)))) (hC48 : C48 = (C33.set g2.toNatClampNeg ((C33.getD g2.toNatClampNeg 0) + (1 : Int32)))) (hC63 : C63 = (C48.set g3.toNatClampNeg ((C48.getD g3.toNatClampNeg 0) + (1 : Int32)))) (hC68 : C68 = [(0 : Int32), (0 : Int32), (0 : Int32), (0 : Int32), (0 : Int32)]) (hC73 : C73 = (C68.set 2 ((C68.getD 1 0) + (C63.getD 1 0)))) (hC79 : C79 = (C73.set 3 ((C73.getD 2 0) + (C63.getD 2 0)))) (hC85 : C85 = (C79.set 4 ((C79.getD 3 0) + (C63.getD 3 0)))) (hC0 : C0 = (List.replicate tt.toNatClampNeg 0)) (hC375 : C375 = [(C85.getD 0 0), (C85.getD 1 0), (C85.getD 2 0), (C85.getD 3 0)]) (hC378 : C378 = (C375.set g1.toNatClampNeg ((C375.getD g1.toNatClampNeg 0) + (1 : Int32)))) (hC382 : C382 = (C0.set (C375.getD g1.toNatClampNeg 0).toNatClampNeg (1 : Int32))) (hC391 : C391 = (C378.set g2.toNatClampNeg ((C378.getD g2.toNatClampNeg 0) + (1 : Int32)))) (hC395 : C395 = (C382.set (C378.getD g2.toNatClampNeg 0).toNatClampNeg (2 : Int32))) (hC404 : C404 = (C391.set g3.toNatClampNeg ((C391.getD g3.toNatClampNeg 0) + (1 : Int32)))) (hC408 : C408 = (C395.set (C391.getD g3.toNatClampNeg 0).toNatClampNeg (3 : Int32))) (htt : tt = (C85.getD 4 0)) (y0 : ¬ ((0 : Int32) < g0)) (y1 : (0 : Int32) < g1) (y2 : (0 : Int32) < g2) (y3 : (0 : Int32) < g3) : C85 = (own_SL g0 g1 g2 g3) ∧ C408 = (own_ML g0 g1 g2 g3) ∧ True := by
  subst hC408 hC404 hC395 hC391 hC382 hC378 hC375 hC0 htt hC85 hC79 hC73 hC68 hC63 hC48 hC33 hC18 hC15
  rcases hg0 with rfl | rfl | rfl | rfl <;> rcases hg1 with rfl | rfl | rfl | rfl <;> rcases hg2 with rfl | rfl | rfl | rfl <;> rcases hg3 with rfl | rfl | rfl | rfl <;> revert y0 y1 y2 y3 <;> decide +kernel
set_option maxHeartbeats 40000000 in
theorem own_end9 {g0 : Int32} {g1 : Int32} {g2 : Int32} {g3 : Int32} {C15 : List Int32} {C18 : List Int32} {C33 : List Int32} {C48 : List Int32} {C63 : List Int32} {C68 : List Int32} {C73 : List Int32} {C79 : List Int32} {C85 : List Int32} {C0 : List Int32} {C375 : List Int32} {C378 : List Int32} {C382 : List Int32} {C391 : List Int32} {C395 : List Int32} {tt : Int32} (hg0 : own_G g0) (hg1 : own_G g1) (hg2 : own_G g2) (hg3 : own_G g3) (hC15 : C15 = [(0 : Int32), (0 : Int32), (0 : Int32), (0 : Int32)]) (hC18 : C18 = (C15.set g0.toNatClampNeg ((C15.getD g0.toNatClampNeg 0) + (1 : Int32)))) (hC33 : C33 = (C18.set g1.toNatClampNeg ((C18.getD g1.toNatClampNeg 0) + (1 : Int32)))) (hC48 : C48 = (C33.set g2.toNatClampNeg ((C33.getD g2.toNatClampNeg 0) + (1 : Int32)))) (hC63 : C63 = (C48.set g3.toNatClampNeg ((C48.getD g3.toNatClampNeg 0) + (1 : Int32)))) (hC68 : C68 = [(0 : Int32), (0 : Int32), (0 : Int32), (0 : Int32), (0 : Int32)]) (hC73 : C73 = (C68.set 2 ((C68.getD 1 0) + (C63.getD 1 0)))) (hC79 : C79 = (C73.set 3 ((C73.getD 2 0) + (C63.getD 2 0)))) (hC85 : C85 = (C79.set 4 ((C79.getD 3 0) + (C63.getD 3 0)))) (hC0 : C0 = (List.replicate tt.toNatClampNeg 0)) (hC375 : C375 = [(C85.getD 0 0), (C85.getD 1 0), (C85.getD 2 0), (C85.getD 3 0)]) (hC378 : C378 = (C375.set g1.toNatClampNeg ((C375.getD g1.toNatClampNeg 0) + (1 : Int32)))) (hC382 : C382 = (C0.set (C375.getD g1.toNatClampNeg 0).toNatClampNeg (1 : Int32))) (hC391 : C391 = (C378.set g2.toNatClampNeg ((C378.getD g2.toNatClampNeg 0) + (1 : Int32)))) (hC395 : C395 = (C382.set (C378.getD g2.toNatClampNeg 0).toNatClampNeg (2 : Int32))) (htt : tt = (C85.getD 4 0)) (y0 : ¬ ((0 : Int32) < g0)) (y1 : (0 : Int32) < g1) (y2 : (0 : Int32) < g2) (y3 : ¬ ((0 : Int32) < g3)) : C85 = (own_SL g0 g1 g2 g3) ∧ C395 = (own_ML g0 g1 g2 g3) ∧ True := by
  subst hC395 hC391 hC382 hC378 hC375 hC0 htt hC85 hC79 hC73 hC68 hC63 hC48 hC33 hC18 hC15
  rcases hg0 with rfl | rfl | rfl | rfl <;> rcases hg1 with rfl | rfl | rfl | rfl <;> rcases hg2 with rfl | rfl | rfl | rfl <;> rcases hg3 with rfl | rfl | rfl | rfl <;> revert y0 y1 y2 y3 <;> decide +kernel
set_option maxHeartbeats 40000000 in
theorem own_end10 {g0 : Int32} {g1 : Int32} {g2 : Int32} {g3 : Int32} {C15 : List Int32} {C18 : List Int32} {C33 : List Int32} {C48 : List Int32} {C63 : List Int32} {C68 : List Int32} {C73 : List Int32} {C79 : List Int32} {C85 : List Int32} {C0 : List Int32} {C375 : List Int32} {C378 : List Int32} {C382 : List Int32} {C461 : List Int32} {C465 : List Int32} {tt : Int32} (hg0 : own_G g0) (hg1 : own_G g1) (hg2 : own_G g2) (hg3 : own_G g3) (hC15 : C15 = [(0 : Int32), (0 : Int32), (0 : Int32), (0 : Int32)]) (hC18 : C18 = (C15.set g0.toNatClampNeg ((C15.getD g0.toNatClampNeg 0) + (1 : Int32)))) (hC33 : C33 = (C18.set g1.toNatClampNeg ((C18.getD g1.toNatClampNeg 0) + (1 : Int32)))) (hC48 : C48 = (C33.set g2.toNatClampNeg ((C33.getD g2.toNatClampNeg 0) + (1 : Int32)))) (hC63 : C63 = (C48.set g3.toNatClampNeg ((C48.getD g3.toNatClampNeg 0) + (1 : Int32)))) (hC68 : C68 = [(0 : Int32), (0 : Int32), (0 : Int32), (0 : Int32), (0 : Int32)]) (hC73 : C73 = (C68.set 2 ((C68.getD 1 0) + (C63.getD 1 0)))) (hC79 : C79 = (C73.set 3 ((C73.getD 2 0) + (C63.getD 2 0)))) (hC85 : C85 = (C79.set 4 ((C79.getD 3 0) + (C63.getD 3 0)))) (hC0 : C0 = (List.replicate tt.toNatClampNeg 0)) (hC375 : C375 = [(C85.getD 0 0), (C85.getD 1 0), (C85.getD 2 0), (C85.getD 3 0)]) (hC378 : C378 = (C375.set g1.toNatClampNeg ((C375.getD g1.toNatClampNeg 0) + (1 : Int32)))) (hC382 : C382 = (C0.set (C375.getD g1.toNatClampNeg 0).toNatClampNeg (1 : Int32))) (hC461 : C461 = (C378.set g3.toNatClampNeg ((C378.getD g3.toNatClampNeg 0) + (1 : Int32)))) (hC465 : C465 = (C382.set (C378.getD g3.toNatClampNeg 0).toNatClampNeg (3 : Int32))) (htt : tt = (C85.getD 4 0)) (y0 : ¬ ((0 : Int32) < g0)) (y1 : (0 : Int32) < g1) (y2 : ¬ ((0 : Int32) < g2)) (y3 : (0 : Int32) < g3) : C85 = (own_SL g0 g1 g2 g3) ∧ C465 = (own_ML g0 g1 g2 g3) ∧ True := by
  subst hC465 hC461 hC382 hC378 hC375 hC0 htt hC85 hC79 hC73 hC68 hC63 hC48 hC33 hC18 hC15
  rcases hg0 with rfl | rfl | rfl | rfl <;> rcases hg1 with rfl | rfl | rfl | rfl <;> rcases hg2 with rfl | rfl | rfl | rfl <;> rcases hg3 with rfl | rfl | rfl | rfl <;> revert y0 y1 y2 y3 <;> decide +kernel
set_option maxHeartbeats 40000000 in
theorem own_end11 {g0 : Int32} {g1 : Int32} {g2 : Int32} {g3 : Int32} {C15 : List Int32} {C18 : List Int32} {C33 : List Int32} {C48 : List Int32} {C63 : List Int32} {C68 : List Int32} {C73 : List Int32} {C79 : List Int32} {C85 : List Int32} {C0 : List Int32} {C375 : List Int32} {C378 : List Int32} {C382 : List Int32} {tt : Int32} (hg0 : own_G g0) (hg1 : own_G g1) (hg2 : own_G g2) (hg3 : own_G g3) (hC15 : C15 = [(0 : Int32), (0 : Int32), (0 : Int32), (0 : Int32)]) (hC18 : C18 = (C15.set g0.toNatClampNeg ((C15.getD g0.toNatClampNeg 0) + (1 : Int32)))) (hC33 : C33 = (C18.set g1.toNatClampNeg ((C18.getD g1.toNatClampNeg 0) + (1 : Int32)))) (hC48 : C48 = (C33.set g2.toNatClampNeg ((C33.getD g2.toNatClampNeg 0) + (1 : Int32)))) (hC63 : C63 = (C48.set g3.toNatClampNeg ((C48.getD g3.toNatClampNeg 0) + (1 : Int32)))) (hC68 : C68 = [(0 : Int32), (0 : Int32), (0 : Int32), (0 : Int32), (0 : Int32)]) (hC73 : C73 = (C68.set 2 ((C68.getD 1 0) + (C63.getD 1 0)))) (hC79 : C79 = (C73.set 3 ((C73.getD 2 0) + (C63.getD 2 0)))) (hC85 : C85 = (C79.set 4 ((C79.getD 3 0) + (C63.getD 3 0)))) (hC0 : C0 = (List.replicate tt.toNatClampNeg 0)) (hC375 : C375 = [(C85.getD 0 0), (C85.getD 1 0), (C85.getD 2 0), (C85.getD 3 0)]) (hC378 : C378 = (C375.set g1.toNatClampNeg ((C375.getD g1.toNatClampNeg 0) + (1 : Int32)))) (hC382 : C382 = (C0.set (C375.getD g1.toNatClampNeg 0).toNatClampNeg (1 : Int32))) (htt : tt = (C85.getD 4 0)) (y0 : ¬ ((0 : Int32) < g0)) (y1 : (0 : Int32) < g1) (y2 : ¬ ((0 : Int32) < g2)) (y3 : ¬ ((0 : Int32) < g3)) : C85 = (own_SL g0 g1 g2 g3) ∧ C382 = (own_ML g0 g1 g2 g3) ∧ True := by
  subst hC382 hC378 hC375 hC0 htt hC85 hC79 hC73 hC68 hC63 hC48 hC33 hC18 hC15
  rcases hg0 with rfl | rfl | rfl | rfl <;> rcases hg1 with rfl | rfl | rfl | rfl <;> rcases hg2 with rfl | rfl | rfl | rfl <;> rcases hg3 with rfl | rfl | rfl | rfl <;> revert y0 y1 y2 y3 <;> decide +kernel
set_option maxHeartbeats 40000000 in
theorem own_end12 {g0 : Int32} {g1 : Int32} {g2 : Int32} {g3 : Int32} {C15 : List Int32} {C18 : List Int32} {C33 : List Int32} {C48 : List Int32} {C63 : List Int32} {C68 : List Int32} {C73 : List Int32} {C79 : List Int32} {C85 : List Int32} {C0 : List Int32} {C515 : List Int32} {C518 : List Int32} {C522 : List Int32} {C531 : List Int32} {C535 : List Int32} {tt : Int32} (hg0 : own_G g0) (hg1 : own_G g1) (hg2 : own_G g2) (hg3 : own_G g3) (hC15 : C15 = [(0 : Int32), (0 : Int32), (0 : Int32), (0 : Int32)]) (hC18 : C18 = (C15.set g0.toNatClampNeg ((C15.getD g0.toNatClampNeg 0) + (1 : Int32)))) (hC33 : C33 = (C18.set g1.toNatClampNeg ((C18.getD g1.toNatClampNeg 0) + (1 : Int32)))) (hC48 : C48 = (C33.set g2.toNatClampNeg ((C33.getD g2.toNatClampNeg 0) + (1 : Int32)))) (hC63 : C63 = (C48.set g3.toNatClampNeg ((C48.getD g3.toNatClampNeg 0) + (1 : Int32)))) (hC68 : C68 = [(0 : Int32), (0 : Int32), (0 : Int32), (0 : Int32), (0 : Int32)]) (hC73 : C73 = (C68.set 2 ((C68.getD 1 0) + (C63.getD 1 0)))) (hC79 : C79 = (C73.set 3 ((C73.getD 2 0) + (C63.getD 2 0)))) (hC85 : C85 = (C79.set 4 ((C79.getD 3 0) + (C63.getD 3 0)))) (hC0 : C0 = (List.replicate tt.toNatClampNeg 0)) (hC515 : C515 = [(C85.getD 0 0), (C85.getD 1 0), (C85.getD 2 0), (C85.getD 3 0)]) (hC518 : C518 = (C515.set g2.toNatClampNeg ((C515.getD g2.toNatClampNeg 0) + (1 : Int32)))) (hC522 : C522 = (C0.set (C515.getD g2.toNatClampNeg 0).toNatClampNeg (2 : Int32))) (hC531 : C531 = (C518.set g3.toNatClampNeg ((C518.getD g3.toNatClampNeg 0) + (1 : Int32)))) (hC535 : C535 = (C522.set (C518.getD g3.toNatClampNeg 0).toNatClampNeg (3 : Int32))) (htt : tt = (C85.getD 4 0)) (y0 : ¬ ((0 : Int32) < g0)) (y1 : ¬ ((0 : Int32) < g1)) (y2 : (0 : Int32) < g2) (y3 : (0 : Int32) < g3) : C85 = (own_SL g0 g1 g2 g3) ∧ C535 = (own_ML g0 g1 g2 g3) ∧ True := by
  subst hC535 hC531 hC522 hC518 hC515 hC0 htt hC85 hC79 hC73 hC68 hC63 hC48 hC33 hC18 hC15
  rcases hg0 with rfl | rfl | rfl | rfl <;> rcases hg1 with rfl | rfl | rfl | rfl <;> rcases hg2 with rfl | rfl | rfl | rfl <;> rcases hg3 with rfl | rfl | rfl | rfl <;> revert y0 y1 y2 y3 <;> decide +kernel
set_option maxHeartbeats 40000000 in
theorem own_end13 {g0 : Int32} {g1 : Int32} {g2 : Int32} {g3 : Int32} {C15 : List Int32} {C18 : List Int32} {C33 : List Int32} {C48 : List Int32} {C63 : List Int32} {C68 : List Int32} {C73 : List Int32} {C79 : List Int32} {C85 : List Int32} {C0 : List Int32} {C515 : List Int32} {C518 : List Int32} {C522 : List Int32} {tt : Int32} (hg0 : own_G g0) (hg1 : own_G g1) (hg2 : own_G g2) (hg3 : own_G g3) (hC15 : C15 = [(0 : Int32), (0 : Int32), (0 : Int32), (0 : Int32)]) (hC18 : C18 = (C15.set g0.toNatClampNeg ((C15.getD g0.toNatClampNeg 0) + (1 : Int32)))) (hC33 : C33 = (C18.set g1.toNatClampNeg ((C18.getD g1.toNatClampNeg 0) + (1 : Int32)))) (hC48 : C48 = (C33.set g2.toNatClampNeg ((C33.getD g2.toNatClampNeg 0) + (1 : Int32)))) (hC63 : C63 = (C48.set g3.toNatClampNeg ((C48.getD g3.toNatClampNeg 0) + (1 : Int32)))) (hC68 : C68 = [(0 : Int32), (0 : Int32), (0 : Int32), (0 : Int32), (0 : Int32)]) (hC73 : C73 = (C68.set 2 ((C68.getD 1 0) + (C63.getD 1 0)))) (hC79 : C79 = (C73.set 3 ((C73.getD 2 0) + (C63.getD 2 0)))) (hC85 : C85 = (C79.set 4 ((C79.getD 3 0) + (C63.getD 3 0)))) (hC0 : C0 = (List.replicate tt.toNatClampNeg 0)) (hC515 : C515 = [(C85.getD 0 0), (C85.getD 1 0), (C85.getD 2 0), (C85.getD 3 0)]) (hC518 : C518 = (C515.set g2.toNatClampNeg ((C515.getD g2.toNatClampNeg 0) + (1 : Int32)))) (hC522 : C522 = (C0.set (C515.getD g2.toNatClampNeg 0).toNatClampNeg (2 : Int32))) (htt : tt = (C85.getD 4 0)) (y0 : ¬ ((0 : Int32) < g0)) (y1 : ¬ ((0 : Int32) < g1)) (y2 : (0 : Int32) < g2) (y3 : ¬ ((0 : Int32) < g3)) : C85 = (own_SL g0 g1 g2 g3) ∧ C522 = (own_ML g0 g1 g2 g3) ∧ True := by
  subst hC522 hC518 hC515 hC0 htt hC85 hC79 hC73 hC68 hC63 hC48 hC33 hC18 hC15
  rcases hg0 with rfl | rfl | rfl | rfl <;> rcases hg1 with rfl | rfl | rfl | rfl <;> rcases hg2 with rfl | rfl | rfl | rfl <;> rcases hg3 with rfl | rfl | rfl | rfl <;> revert y0 y1 y2 y3 <;> decide +kernel
set_option maxHeartbeats 40000000 in
theorem own_end14 {g0 : Int32} {g1 : Int32} {g2 : Int32} {g3 : Int32} {C15 : List Int32} {C18 : List Int32} {C33 : List Int32} {C48 : List Int32} {C63 : List Int32} {C68 : List Int32} {C73 : List Int32} {C79 : List Int32} {C85 : List Int32} {C0 : List Int32} {C585 : List Int32} {C588 : List Int32} {C592 : List Int32} {tt : Int32} (hg0 : own_G g0) (hg1 : own_G g1) (hg2 : own_G g2) (hg3 : own_G g3) (hC15 : C15 = [(0 : Int32), (0 : Int32), (0 : Int32), (0 : Int32)]) (hC18 : C18 = (C15.set g0.toNatClampNeg ((C15.getD g0.toNatClampNeg 0) + (1 : Int32)))) (hC33 : C33 = (C18.set g1.toNatClampNeg ((C18.getD g1.toNatClampNeg 0) + (1 : Int32)))) (hC48 : C48 = (C33.set g2.toNatClampNeg ((C33.getD g2.toNatClampNeg 0) + (1 : Int32)))) (hC63 : C63 = (C48.set g3.toNatClampNeg ((C48.getD g3.toNatClampNeg 0) + (1 : Int32)))) (hC68 : C68 = [(0 : Int32), (0 : Int32), (0 : Int32), (0 : Int32), (0 : Int32)]) (hC73 : C73 = (C68.set 2 ((C68.getD 1 0) + (C63.getD 1 0)))) (hC79 : C79 = (C73.set 3 ((C73.getD 2 0) + (C63.getD 2 0)))) (hC85 : C85 = (C79.set 4 ((C79.getD 3 0) + (C63.getD 3 0)))) (hC0 : C0 = (List.replicate tt.toNatClampNeg 0)) (hC585 : C585 = [(C85.getD 0 0), (C85.getD 1 0), (C85.getD 2 0), (C85.getD 3 0)]) (hC588 : C588 = (C585.set g3.toNatClampNeg ((C585.getD g3.toNatClampNeg 0) + (1 : Int32)))) (hC592 : C592 = (C0.set (C585.getD g3.toNatClampNeg 0).toNatClampNeg (3 : Int32))) (htt : tt = (C85.getD 4 0)) (y0 : ¬ ((0 : Int32) < g0)) (y1 : ¬ ((0 : Int32) < g1)) (y2 : ¬ ((0 : Int32) < g2)) (y3 : (0 : Int32) < g3) : C85 = (own_SL g0 g1 g2 g3) ∧ C592 = (own_ML g0 g1 g2 g3) ∧ True := by
  subst hC592 hC588 hC585 hC0 htt hC85 hC79 hC73 hC68 hC63 hC48 hC33 hC18 hC15
  rcases hg0 with rfl | rfl | rfl | rfl <;> rcases hg1 with rfl | rfl | rfl | rfl <;> rcases hg2 with rfl | rfl | rfl | rfl <;> rcases hg3 with rfl | rfl | rfl | rfl <;> revert y0 y1 y2 y3 <;> decide +kernel
set_option maxHeartbeats 40000000 in
theorem own_end15 {g0 : Int32} {g1 : Int32} {g2 : Int32} {g3 : Int32} {C15 : List Int32} {C18 : List Int32} {C33 : List Int32} {C48 : List Int32} {C63 : List Int32} {C68 : List Int32} {C73 : List Int32} {C79 : List Int32} {C85 : List Int32} {C0 : List Int32} {tt : Int32} (hg0 : own_G g0) (hg1 : own_G g1) (hg2 : own_G g2) (hg3 : own_G g3) (hC15 : C15 = [(0 : Int32), (0 : Int32), (0 : Int32), (0 : Int32)]) (hC18 : C18 = (C15.set g0.toNatClampNeg ((C15.getD g0.toNatClampNeg 0) + (1 : Int32)))) (hC33 : C33 = (C18.set g1.toNatClampNeg ((C18.getD g1.toNatClampNeg 0) + (1 : Int32)))) (hC48 : C48 = (C33.set g2.toNatClampNeg ((C33.getD g2.toNatClampNeg 0) + (1 : Int32)))) (hC63 : C63 = (C48.set g3.toNatClampNeg ((C48.getD g3.toNatClampNeg 0) + (1 : Int32)))) (hC68 : C68 = [(0 : Int32), (0 : Int32), (0 : Int32), (0 : Int32), (0 : Int32)]) (hC73 : C73 = (C68.set 2 ((C68.getD 1 0) + (C63.getD 1 0)))) (hC79 : C79 = (C73.set 3 ((C73.getD 2 0) + (C63.getD 2 0)))) (hC85 : C85 = (C79.set 4 ((C79.getD 3 0) + (C63.getD 3 0)))) (hC0 : C0 = (List.replicate tt.toNatClampNeg 0)) (htt : tt = (C85.getD 4 0)) (y0 : ¬ ((0 : Int32) < g0)) (y1 : ¬ ((0 : Int32) < g1)) (y2 : ¬ ((0 : Int32) < g2)) (y3 : ¬ ((0 : Int32) < g3)) : C85 = (own_SL g0 g1 g2 g3) ∧ C0 = (own_ML g0 g1 g2 g3) ∧ True := by
  subst hC0 htt hC85 hC79 hC73 hC68 hC63 hC48 hC33 hC18 hC15
  rcases hg0 with rfl | rfl | rfl | rfl <;> rcases hg1 with rfl | rfl | rfl | rfl <;> rcases hg2 with rfl | rfl | rfl | rfl <;> rcases hg3 with rfl | rfl | rfl | rfl <;> revert y0 y1 y2 y3 <;> decide +kernel
theorem d2_0 : decode prog_33_method_1_code 0 = .ok (.aload_n 0, 1) := by decide +kernel
theorem d2_1 : decode prog_33_method_1_code 1 = .ok (.invokespecial 1, 3) := by decide +kernel
theorem d2_4 : decode prog_33_method_1_code 4 = .ok (.aload_n 1, 1) := by decide +kernel
theorem d2_5 : decode prog_33_method_1_code 5 = .ok (.arraylength, 1) := by decide +kernel
theorem d2_6 : decode prog_33_method_1_code 6 = .ok (.aload_n 2, 1) := by decide +kernel
theorem d2_7 : decode prog_33_method_1_code 7 = .ok (.arraylength, 1) := by decide +kernel
theorem d2_8 : decode prog_33_method_1_code 8 = .ok (.if_icmp .eq 20, 3) := by decide +kernel
theorem d2_28 : decode prog_33_method_1_code 28 = .ok (.iload_n 3, 1) := by decide +kernel
theorem d2_29 : decode prog_33_method_1_code 29 = .ok (.iconst 1, 1) := by decide +kernel
theorem d2_30 : decode prog_33_method_1_code 30 = .ok (.iadd, 1) := by decide +kernel
theorem d2_31 : decode prog_33_method_1_code 31 = .ok (.newarray .int, 2) := by decide +kernel
theorem d2_33 : decode prog_33_method_1_code 33 = .ok (.astore 4, 2) := by decide +kernel
theorem d2_35 : decode prog_33_method_1_code 35 = .ok (.iconst 0, 1) := by decide +kernel
theorem d2_36 : decode prog_33_method_1_code 36 = .ok (.istore 5, 2) := by decide +kernel
theorem d2_38 : decode prog_33_method_1_code 38 = .ok (.iload 5, 2) := by decide +kernel
theorem d2_40 : decode prog_33_method_1_code 40 = .ok (.aload_n 1, 1) := by decide +kernel
theorem d2_41 : decode prog_33_method_1_code 41 = .ok (.arraylength, 1) := by decide +kernel
theorem d2_42 : decode prog_33_method_1_code 42 = .ok (.if_icmp .ge 107, 3) := by decide +kernel
theorem d2_45 : decode prog_33_method_1_code 45 = .ok (.aload_n 1, 1) := by decide +kernel
theorem d2_46 : decode prog_33_method_1_code 46 = .ok (.iload 5, 2) := by decide +kernel
theorem d2_48 : decode prog_33_method_1_code 48 = .ok (.iaload, 1) := by decide +kernel
theorem d2_49 : decode prog_33_method_1_code 49 = .ok (.ifCond .lt 11, 3) := by decide +kernel
theorem d2_52 : decode prog_33_method_1_code 52 = .ok (.aload_n 1, 1) := by decide +kernel
theorem d2_53 : decode prog_33_method_1_code 53 = .ok (.iload 5, 2) := by decide +kernel
theorem d2_55 : decode prog_33_method_1_code 55 = .ok (.iaload, 1) := by decide +kernel
theorem d2_56 : decode prog_33_method_1_code 56 = .ok (.iload_n 3, 1) := by decide +kernel
theorem d2_57 : decode prog_33_method_1_code 57 = .ok (.if_icmp .le 22, 3) := by decide +kernel
theorem d2_79 : decode prog_33_method_1_code 79 = .ok (.aload_n 2, 1) := by decide +kernel
theorem d2_80 : decode prog_33_method_1_code 80 = .ok (.iload 5, 2) := by decide +kernel
theorem d2_82 : decode prog_33_method_1_code 82 = .ok (.daload, 1) := by decide +kernel
theorem d2_83 : decode prog_33_method_1_code 83 = .ok (.dconst 0, 1) := by decide +kernel
theorem d2_84 : decode prog_33_method_1_code 84 = .ok (.dcmp .l, 1) := by decide +kernel
theorem d2_85 : decode prog_33_method_1_code 85 = .ok (.ifCond .lt 28, 3) := by decide +kernel
theorem d2_88 : decode prog_33_method_1_code 88 = .ok (.aload_n 2, 1) := by decide +kernel
theorem d2_89 : decode prog_33_method_1_code 89 = .ok (.iload 5, 2) := by decide +kernel
theorem d2_91 : decode prog_33_method_1_code 91 = .ok (.daload, 1) := by decide +kernel
theorem d2_92 : decode prog_33_method_1_code 92 = .ok (.dconst 1, 1) := by decide +kernel
theorem d2_93 : decode prog_33_method_1_code 93 = .ok (.dcmp .g, 1) := by decide +kernel
theorem d2_94 : decode prog_33_method_1_code 94 = .ok (.ifCond .gt 19, 3) := by decide +kernel
theorem d2_97 : decode prog_33_method_1_code 97 = .ok (.aload_n 1, 1) := by decide +kernel
theorem d2_98 : decode prog_33_method_1_code 98 = .ok (.iload 5, 2) := by decide +kernel
theorem d2_100 : decode prog_33_method_1_code 100 = .ok (.iaload, 1) := by decide +kernel
theorem d2_101 : decode prog_33_method_1_code 101 = .ok (.ifCond .ne 31, 3) := by decide +kernel
theorem d2_104 : decode prog_33_method_1_code 104 = .ok (.aload_n 2, 1) := by decide +kernel
theorem d2_105 : decode prog_33_method_1_code 105 = .ok (.iload 5, 2) := by decide +kernel
theorem d2_107 : decode prog_33_method_1_code 107 = .ok (.daload, 1) := by decide +kernel
theorem d2_108 : decode prog_33_method_1_code 108 = .ok (.dconst 0, 1) := by decide +kernel
theorem d2_109 : decode prog_33_method_1_code 109 = .ok (.dcmp .l, 1) := by decide +kernel
theorem d2_110 : decode prog_33_method_1_code 110 = .ok (.ifCond .eq 22, 3) := by decide +kernel
theorem d2_132 : decode prog_33_method_1_code 132 = .ok (.aload 4, 2) := by decide +kernel
theorem d2_134 : decode prog_33_method_1_code 134 = .ok (.aload_n 1, 1) := by decide +kernel
theorem d2_135 : decode prog_33_method_1_code 135 = .ok (.iload 5, 2) := by decide +kernel
theorem d2_137 : decode prog_33_method_1_code 137 = .ok (.iaload, 1) := by decide +kernel
theorem d2_138 : decode prog_33_method_1_code 138 = .ok (.dup2, 1) := by decide +kernel
theorem d2_139 : decode prog_33_method_1_code 139 = .ok (.iaload, 1) := by decide +kernel
theorem d2_140 : decode prog_33_method_1_code 140 = .ok (.iconst 1, 1) := by decide +kernel
theorem d2_141 : decode prog_33_method_1_code 141 = .ok (.iadd, 1) := by decide +kernel
theorem d2_142 : decode prog_33_method_1_code 142 = .ok (.iastore, 1) := by decide +kernel
theorem d2_143 : decode prog_33_method_1_code 143 = .ok (.iinc 5 1, 3) := by decide +kernel
theorem d2_146 : decode prog_33_method_1_code 146 = .ok (.goto (-108), 3) := by decide +kernel
theorem d2_149 : decode prog_33_method_1_code 149 = .ok (.iload_n 3, 1) := by decide +kernel
theorem d2_150 : decode prog_33_method_1_code 150 = .ok (.iconst 2, 1) := by decide +kernel
theorem d2_151 : decode prog_33_method_1_code 151 = .ok (.iadd, 1) := by decide +kernel
theorem d2_152 : decode prog_33_method_1_code 152 = .ok (.newarray .int, 2) := by decide +kernel
theorem d2_154 : decode prog_33_method_1_code 154 = .ok (.astore 5, 2) := by decide +kernel
theorem d2_156 : decode prog_33_method_1_code 156 = .ok (.iconst 1, 1) := by decide +kernel
theorem d2_157 : decode prog_33_method_1_code 157 = .ok (.istore 6, 2) := by decide +kernel
theorem d2_159 : decode prog_33_method_1_code 159 = .ok (.iload 6, 2) := by decide +kernel
theorem d2_161 : decode prog_33_method_1_code 161 = .ok (.iload_n 3, 1) := by decide +kernel
theorem d2_162 : decode prog_33_method_1_code 162 = .ok (.if_icmp .gt 27, 3) := by decide +kernel
theorem d2_165 : decode prog_33_method_1_code 165 = .ok (.aload 5, 2) := by decide +kernel
theorem d2_167 : decode prog_33_method_1_code 167 = .ok (.iload 6, 2) := by decide +kernel
theorem d2_169 : decode prog_33_method_1_code 169 = .ok (.iconst 1, 1) := by decide +kernel
theorem d2_170 : decode prog_33_method_1_code 170 = .ok (.iadd, 1) := by decide +kernel
theorem d2_171 : decode prog_33_method_1_code 171 = .ok (.aload 5, 2) := by decide +kernel
theorem d2_173 : decode prog_33_method_1_code 173 = .ok (.iload 6, 2) := by decide +kernel
theorem d2_175 : decode prog_33_method_1_code 175 = .ok (.iaload, 1) := by decide +kernel
theorem d2_176 : decode prog_33_method_1_code 176 = .ok (.aload 4, 2) := by decide +kernel
theorem d2_178 : decode prog_33_method_1_code 178 = .ok (.iload 6, 2) := by decide +kernel
theorem d2_180 : decode prog_33_method_1_code 180 = .ok (.iaload, 1) := by decide +kernel
theorem d2_181 : decode prog_33_method_1_code 181 = .ok (.iadd, 1) := by decide +kernel
theorem d2_182 : decode prog_33_method_1_code 182 = .ok (.iastore, 1) := by decide +kernel
theorem d2_183 : decode prog_33_method_1_code 183 = .ok (.iinc 6 1, 3) := by decide +kernel
theorem d2_186 : decode prog_33_method_1_code 186 = .ok (.goto (-27), 3) := by decide +kernel
theorem d2_189 : decode prog_33_method_1_code 189 = .ok (.aload 5, 2) := by decide +kernel
theorem d2_191 : decode prog_33_method_1_code 191 = .ok (.iload_n 3, 1) := by decide +kernel
theorem d2_192 : decode prog_33_method_1_code 192 = .ok (.iconst 1, 1) := by decide +kernel
theorem d2_193 : decode prog_33_method_1_code 193 = .ok (.iadd, 1) := by decide +kernel
theorem d2_194 : decode prog_33_method_1_code 194 = .ok (.iaload, 1) := by decide +kernel
theorem d2_195 : decode prog_33_method_1_code 195 = .ok (.newarray .int, 2) := by decide +kernel
theorem d2_197 : decode prog_33_method_1_code 197 = .ok (.astore 6, 2) := by decide +kernel
theorem d2_199 : decode prog_33_method_1_code 199 = .ok (.aload 5, 2) := by decide +kernel
theorem d2_201 : decode prog_33_method_1_code 201 = .ok (.iload_n 3, 1) := by decide +kernel
theorem d2_202 : decode prog_33_method_1_code 202 = .ok (.iconst 1, 1) := by decide +kernel
theorem d2_203 : decode prog_33_method_1_code 203 = .ok (.iadd, 1) := by decide +kernel
theorem d2_204 : decode prog_33_method_1_code 204 = .ok (.invokestatic 20, 3) := by decide +kernel
theorem d2_207 : decode prog_33_method_1_code 207 = .ok (.astore 7, 2) := by decide +kernel
theorem d2_209 : decode prog_33_method_1_code 209 = .ok (.iconst 0, 1) := by decide +kernel
theorem d2_210 : decode prog_33_method_1_code 210 = .ok (.istore 8, 2) := by decide +kernel
theorem d2_212 : decode prog_33_method_1_code 212 = .ok (.iload 8, 2) := by decide +kernel
theorem d2_214 : decode prog_33_method_1_code 214 = .ok (.aload_n 1, 1) := by decide +kernel
theorem d2_215 : decode prog_33_method_1_code 215 = .ok (.arraylength, 1) := by decide +kernel
theorem d2_216 : decode prog_33_method_1_code 216 = .ok (.if_icmp .ge 33, 3) := by decide +kernel
theorem d2_219 : decode prog_33_method_1_code 219 = .ok (.aload_n 1, 1) := by decide +kernel
theorem d2_220 : decode prog_33_method_1_code 220 = .ok (.iload 8, 2) := by decide +kernel
theorem d2_222 : decode prog_33_method_1_code 222 = .ok (.iaload, 1) := by decide +kernel
theorem d2_223 : decode prog_33_method_1_code 223 = .ok (.ifCond .le 20, 3) := by decide +kernel
theorem d2_226 : decode prog_33_method_1_code 226 = .ok (.aload 6, 2) := by decide +kernel
theorem d2_228 : decode prog_33_method_1_code 228 = .ok (.aload 7, 2) := by decide +kernel
theorem d2_230 : decode prog_33_method_1_code 230 = .ok (.aload_n 1, 1) := by decide +kernel
theorem d2_231 : decode prog_33_method_1_code 231 = .ok (.iload 8, 2) := by decide +kernel
theorem d2_233 : decode prog_33_method_1_code 233 = .ok (.iaload, 1) := by decide +kernel
theorem d2_234 : decode prog_33_method_1_code 234 = .ok (.dup2, 1) := by decide +kernel
theorem d2_235 : decode prog_33_method_1_code 235 = .ok (.iaload, 1) := by decide +kernel
theorem d2_236 : decode prog_33_method_1_code 236 = .ok (.dup_x2, 1) := by decide +kernel
theorem d2_237 : decode prog_33_method_1_code 237 = .ok (.iconst 1, 1) := by decide +kernel
theorem d2_238 : decode prog_33_method_1_code 238 = .ok (.iadd, 1) := by decide +kernel
theorem d2_239 : decode prog_33_method_1_code 239 = .ok (.iastore, 1) := by decide +kernel
theorem d2_240 : decode prog_33_method_1_code 240 = .ok (.iload 8, 2) := by decide +kernel
theorem d2_242 : decode prog_33_method_1_code 242 = .ok (.iastore, 1) := by decide +kernel
theorem d2_243 : decode prog_33_method_1_code 243 = .ok (.iinc 8 1, 3) := by decide +kernel
theorem d2_246 : decode prog_33_method_1_code 246 = .ok (.goto (-34), 3) := by decide +kernel
theorem d2_249 : decode prog_33_method_1_code 249 = .ok (.aload_n 0, 1) := by decide +kernel
theorem d2_250 : decode prog_33_method_1_code 250 = .ok (.aload_n 1, 1) := by decide +kernel
theorem d2_251 : decode prog_33_method_1_code 251 = .ok (.putfield 26, 3) := by decide +kernel
theorem d2_254 : decode prog_33_method_1_code 254 = .ok (.aload_n 0, 1) := by decide +kernel
theorem d2_255 : decode prog_33_method_1_code 255 = .ok (.aload_n 2, 1) := by decide +kernel
theorem d2_256 : decode prog_33_method_1_code 256 = .ok (.putfield 32, 3) := by decide +kernel
theorem d2_259 : decode prog_33_method_1_code 259 = .ok (.aload_n 0, 1) := by decide +kernel
theorem d2_260 : decode prog_33_method_1_code 260 = .ok (.aload 6, 2) := by decide +kernel
theorem d2_262 : decode prog_33_method_1_code 262 = .ok (.putfield 36, 3) := by decide +kernel
theorem d2_265 : decode prog_33_method_1_code 265 = .ok (.aload_n 0, 1) := by decide +kernel
theorem d2_266 : decode prog_33_method_1_code 266 = .ok (.aload 5, 2) := by decide +kernel
theorem d2_268 : decode prog_33_method_1_code 268 = .ok (.putfield 39, 3) := by decide +kernel
theorem d2_271 : decode prog_33_method_1_code 271 = .ok (.return_, 1) := by decide +kernel
def Q2 (Z : State) (o : Addr) (q0 : Addr) (q1 : Addr) (kg : ClassId) (ks : ClassId) (g0 : Int32) (g1 : Int32) (g2 : Int32) (g3 : Int32) (s0 : UInt64) (s1 : UInt64) (s2 : UInt64) (s3 : UInt64) (h0 : Heap) (v : Option Value) (h : Heap) : Prop := ∃ (x0 : Addr) (x1 : Addr) (k0 : ClassId) (k1 : ClassId), v = none ∧ Keep h0 h [o] ∧ h0.size ≤ x0 ∧ h0.size ≤ x1 ∧ x0 ≠ x1 ∧ Exa Z h o "com/example/sieve_for_links/sieveforlinks/VirtualLinks" ∧ Fld Z h o "com/example/sieve_for_links/sieveforlinks/VirtualLinks" "shares" "[D" (.ref q1) ∧ Fld Z h o "com/example/sieve_for_links/sieveforlinks/VirtualLinks" "members" "[I" (.ref x1) ∧ Fld Z h o "com/example/sieve_for_links/sieveforlinks/VirtualLinks" "memberStarts" "[I" (.ref x0) ∧ Arv Z h x0 k0 .int (5 : Int32) ((own_SL g0 g1 g2 g3).map Value.int) (.int (0 : Int32)) ∧ Arv Z h x1 k1 .int (own_T g0 g1 g2 g3) ((own_ML g0 g1 g2 g3).map Value.int) (.int (0 : Int32))
abbrev GoB2 (l : Launch) (Z : State) (n0 : Nat) (Q : Option Value → Heap → Prop) := Go l Z ({ frames := 2, cells := 4, slots := 17, locals := 32 } : Room) (⟨"com/example/sieve_for_links/sieveforlinks/VirtualLinks", "<init>", "([I[DI)V"⟩ : MethodName) prog_33_method_1_code 9 none n0 Q
theorem ef2 (m : MethodId) (o : Addr) (q0 : Addr) (q1 : Addr) : entryFrame m #[(.ref o), (.ref q0), (.ref q1), (.int (3 : Int32))] 9 = mkF m 0 #[.val (.ref o), .val (.ref q0), .val (.ref q1), .val (.int (3 : Int32)), .unset, .unset, .unset, .unset, .unset] [] := by first | (simp [entryFrame, mkF, argsToLocals, Value.category]; done) | rfl
set_option maxRecDepth 65536 in
set_option maxHeartbeats 40000000 in
theorem rm2 (l : Launch) (Z : State) (a0 : Array Value) (hw : ∀ d ∈ tables_1, d.before a0 Z = true) (o : Addr) (q0 : Addr) (q1 : Addr) (kg : ClassId) (ks : ClassId) (g0 : Int32) (g1 : Int32) (g2 : Int32) (g3 : Int32) (s0 : UInt64) (s1 : UInt64) (s2 : UInt64) (s3 : UInt64) (h0 : Heap) (n0 : Nat) (Z0 : n0 ≤ h0.size) (g_o : n0 ≤ o) (E_o : Exa Z h0 o "com/example/sieve_for_links/sieveforlinks/VirtualLinks") (F_groups : Fld Z h0 o "com/example/sieve_for_links/sieveforlinks/VirtualLinks" "groups" "[I" .null) (F_shares : Fld Z h0 o "com/example/sieve_for_links/sieveforlinks/VirtualLinks" "shares" "[D" .null) (F_members : Fld Z h0 o "com/example/sieve_for_links/sieveforlinks/VirtualLinks" "members" "[I" .null) (F_memberStarts : Fld Z h0 o "com/example/sieve_for_links/sieveforlinks/VirtualLinks" "memberStarts" "[I" .null) (A_g : Arv Z h0 q0 kg .int (4 : Int32) [(.int g0), (.int g1), (.int g2), (.int g3)] (.int (0 : Int32))) (A_s : Arv Z h0 q1 ks .double (4 : Int32) [(.double s0), (.double s1), (.double s2), (.double s3)] (.double (0 : UInt64))) (hg0 : own_G g0) (hg1 : own_G g1) (hg2 : own_G g2) (hg3 : own_G g3) (hs0 : own_S g0 s0) (hs1 : own_S g1 s1) (hs2 : own_S g2 s2) (hs3 : own_S g3 s3) :
    Con l Z ({ frames := 2, cells := 4, slots := 17, locals := 32 } : Room) (⟨"com/example/sieve_for_links/sieveforlinks/VirtualLinks", "<init>", "([I[DI)V"⟩ : MethodName) prog_33_method_1_code 9 none n0 #[(.ref o), (.ref q0), (.ref q1), (.int (3 : Int32))] h0 (Q2 Z o q0 q1 kg ks g0 g1 g2 g3 s0 s1 s2 s3 h0) := by
  refine OwnW.Con.of (by first | decide +kernel | exact plainFor_of_name (by simp [plainName, overriddenIn])) (fun m => ef2 m o q0 q1) ?_
  show GoB2 l Z n0 (Q2 Z o q0 q1 kg ks g0 g1 g2 g3 s0 s1 s2 s3 h0) h0 0 0 0 #[.val (.ref o), .val (.ref q0), .val (.ref q1), .val (.int (3 : Int32)), .unset, .unset, .unset, .unset, .unset] []
  refine OwnW.aloadN (pc' := 1) d2_0 rfl (rfl) rfl ?_
  refine OwnW.initO (a0 := a0) (pc' := 4) (W := 0) d2_1 (hw _ (List.mem_of_getElem? (i := 12) rfl)) (hw _ (List.mem_of_getElem? (i := 13) rfl)) (hw _ (List.mem_of_getElem? (i := 14) rfl)) rfl (by decide) (Nat.le_of_ble_eq_true rfl) (by decide) rfl ?_
  refine OwnW.aloadN (pc' := 5) d2_4 rfl (rfl) rfl ?_
  obtain ⟨cl1, Ar1, qk1, Sz1, Mn1, Hv1, Gf1⟩ := id A_g
  refine OwnW.alen (pc' := 6) (x := (4 : Int32)) d2_5 Ar1 (len_of Sz1 Mn1) rfl ?_
  refine OwnW.aloadN (pc' := 7) d2_6 rfl (rfl) rfl ?_
  obtain ⟨cl2, Ar2, qk2, Sz2, Mn2, Hv2, Gf2⟩ := id A_s
  refine OwnW.alen (pc' := 8) (x := (4 : Int32)) d2_7 Ar2 (len_of Sz2 Mn2) rfl ?_
  refine OwnW.icmpY (pc' := 28) d2_8 (teq (by decide)).1 (by decide) (by decide) ?_
  refine OwnW.iloadN (pc' := 29) d2_28 rfl rfl ?_
  refine OwnW.iconst (pc' := 30) (v := (1 : Int32)) d2_29 rfl rfl ?_
  refine OwnW.iadd (pc' := 31) d2_30 rfl ?_
  show GoB2 l Z n0 (Q2 Z o q0 q1 kg ks g0 g1 g2 g3 s0 s1 s2 s3 h0) h0 0 0 31 #[.val (.ref o), .val (.ref q0), .val (.ref q1), .val (.int (3 : Int32)), .unset, .unset, .unset, .unset, .unset] [(.int (4 : Int32))]
  refine OwnW.newP (a0 := a0) (pc' := 33) (cap := 4) (k' := 1) (n' := 4) d2_31 (hw _ (List.mem_of_getElem? (i := 4) rfl)) (by decide) (by decide) (by decide) rfl rfl (by decide) (by decide) rfl ?_
  intro h3 kc3 ad3 gq3 E3 A3
  have lt_o_ad3 : @LT.lt Nat _ o ad3 := Nat.lt_of_lt_of_le (E_o).lt (Nat.le_of_eq gq3.symm)
  have lt_q0_ad3 : @LT.lt Nat _ q0 ad3 := Nat.lt_of_lt_of_le (A_g).lt (Nat.le_of_eq gq3.symm)
  have lt_q1_ad3 : @LT.lt Nat _ q1 ad3 := Nat.lt_of_lt_of_le (A_s).lt (Nat.le_of_eq gq3.symm)
  have ge_ad3 : n0 ≤ ad3 := Nat.le_trans Z0 (Nat.le_of_eq gq3.symm)
  have sz_ad3 : n0 ≤ h3.size := Nat.le_trans Z0 E3.1
  have V3 : Arv Z h3 ad3 kc3 .int (4 : Int32) [(.int (0 : Int32)), (.int (0 : Int32)), (.int (0 : Int32)), (.int (0 : Int32))] (.int (0 : Int32)) := (Arv.new A3 (by decide)).pad (pad_rep [] _ 4)
  refine OwnW.astore (pc' := 35) (L' := #[.val (.ref o), .val (.ref q0), .val (.ref q1), .val (.int (3 : Int32)), .val (.ref ad3), .unset, .unset, .unset, .unset]) d2_33 (rfl) rfl rfl ?_
  refine OwnW.iconst (pc' := 36) (v := (0 : Int32)) d2_35 rfl rfl ?_
  refine OwnW.istore (pc' := 38) (L' := #[.val (.ref o), .val (.ref q0), .val (.ref q1), .val (.int (3 : Int32)), .val (.ref ad3), .val (.int (0 : Int32)), .unset, .unset, .unset]) d2_36 rfl rfl ?_
  refine OwnW.iload (pc' := 40) d2_38 rfl rfl ?_
  refine OwnW.aloadN (pc' := 41) d2_40 rfl (rfl) rfl ?_
  have F4 := (A_g.ext E3)
  obtain ⟨cl5, Ar5, qk5, Sz5, Mn5, Hv5, Gf5⟩ := id F4
  refine OwnW.alen (pc' := 42) (x := (4 : Int32)) d2_41 Ar5 (len_of Sz5 Mn5) rfl ?_
  refine OwnW.icmpN (pc' := 45) d2_42 (tlt (by decide)).2.1 rfl ?_
  refine OwnW.aloadN (pc' := 46) d2_45 rfl (rfl) rfl ?_
  refine OwnW.iload (pc' := 48) d2_46 rfl rfl ?_
  obtain ⟨cl6, Ar6, qk6, Sz6, Mn6, Hv6, Gf6⟩ := id F4
  refine OwnW.iaload (pc' := 49) (v := (.int g0)) d2_48 Ar6 (inb_of Sz6 ⟨by decide, by decide⟩) (Hv6.at (inb_of Sz6 ⟨by decide, by decide⟩) rfl) rfl ?_
  refine OwnW.ifcN (pc' := 52) d2_49 ((if0 _ _).trans (flt (own_gn hg0).1).1) rfl ?_
  refine OwnW.aloadN (pc' := 53) d2_52 rfl (rfl) rfl ?_
  refine OwnW.iload (pc' := 55) d2_53 rfl rfl ?_
  obtain ⟨cl7, Ar7, qk7, Sz7, Mn7, Hv7, Gf7⟩ := id F4
  refine OwnW.iaload (pc' := 56) (v := (.int g0)) d2_55 Ar7 (inb_of Sz7 ⟨by decide, by decide⟩) (Hv7.at (inb_of Sz7 ⟨by decide, by decide⟩) rfl) rfl ?_
  refine OwnW.iloadN (pc' := 57) d2_56 rfl rfl ?_
  refine OwnW.icmpY (pc' := 79) d2_57 (flt (own_gn hg0).2).2.2.2 (by decide) (by decide) ?_
  refine OwnW.aloadN (pc' := 80) d2_79 rfl (rfl) rfl ?_
  refine OwnW.iload (pc' := 82) d2_80 rfl rfl ?_
  have F8 := (A_s.ext E3)
  obtain ⟨cl9, Ar9, qk9, Sz9, Mn9, Hv9, Gf9⟩ := id F8
  refine OwnW.daload (pc' := 83) (v := (.double s0)) d2_82 Ar9 (inb_of Sz9 ⟨by decide, by decide⟩) (Hv9.at (inb_of Sz9 ⟨by decide, by decide⟩) rfl) rfl ?_
  refine OwnW.dconst0 (pc' := 84) (v := (0 : UInt64)) d2_83 (by decide +kernel) rfl ?_
  refine OwnW.dcmp (pc' := 85) d2_84 rfl rfl ?_
  refine OwnW.ifcN (pc' := 88) d2_85 ((if0 _ _).trans (flt (hs0).1).1) rfl ?_
  refine OwnW.aloadN (pc' := 89) d2_88 rfl (rfl) rfl ?_
  refine OwnW.iload (pc' := 91) d2_89 rfl rfl ?_
  obtain ⟨cl10, Ar10, qk10, Sz10, Mn10, Hv10, Gf10⟩ := id F8
  refine OwnW.daload (pc' := 92) (v := (.double s0)) d2_91 Ar10 (inb_of Sz10 ⟨by decide, by decide⟩) (Hv10.at (inb_of Sz10 ⟨by decide, by decide⟩) rfl) rfl ?_
  refine OwnW.dconst1 (pc' := 93) (v := (4607182418800017408 : UInt64)) d2_92 (by decide +kernel) rfl ?_
  refine OwnW.dcmp (pc' := 94) d2_93 rfl rfl ?_
  refine OwnW.ifcN (pc' := 97) d2_94 ((if0 _ _).trans (flt (hs0).2.1).2.2.1) rfl ?_
  refine OwnW.aloadN (pc' := 98) d2_97 rfl (rfl) rfl ?_
  refine OwnW.iload (pc' := 100) d2_98 rfl rfl ?_
  obtain ⟨cl11, Ar11, qk11, Sz11, Mn11, Hv11, Gf11⟩ := id F4
  refine OwnW.iaload (pc' := 101) (v := (.int g0)) d2_100 Ar11 (inb_of Sz11 ⟨by decide, by decide⟩) (Hv11.at (inb_of Sz11 ⟨by decide, by decide⟩) rfl) rfl ?_
  suffices J101_132 : GoB2 l Z n0 (Q2 Z o q0 q1 kg ks g0 g1 g2 g3 s0 s1 s2 s3 h0) h3 1 4 132 #[.val (.ref o), .val (.ref q0), .val (.ref q1), .val (.int (3 : Int32)), .val (.ref ad3), .val (.int (0 : Int32)), .unset, .unset, .unset] [] by
    by_cases hc101 : g0 = (0 : Int32)
    ·
      refine OwnW.ifcN (pc' := 104) d2_101 ((if0 _ _).trans (teq hc101).2) rfl ?_
      refine OwnW.aloadN (pc' := 105) d2_104 rfl (rfl) rfl ?_
      refine OwnW.iload (pc' := 107) d2_105 rfl rfl ?_
      obtain ⟨cl13, Ar13, qk13, Sz13, Mn13, Hv13, Gf13⟩ := id F8
      refine OwnW.daload (pc' := 108) (v := (.double s0)) d2_107 Ar13 (inb_of Sz13 ⟨by decide, by decide⟩) (Hv13.at (inb_of Sz13 ⟨by decide, by decide⟩) rfl) rfl ?_
      refine OwnW.dconst0 (pc' := 109) (v := (0 : UInt64)) d2_108 (by decide +kernel) rfl ?_
      refine OwnW.dcmp (pc' := 110) d2_109 rfl rfl ?_
      refine OwnW.ifcY (pc' := 132) d2_110 ((if0 _ _).trans (teq ((hs0).2.2.1 hc101)).1) (by decide) (by decide) ?_
      exact J101_132
    ·
      refine OwnW.ifcY (pc' := 132) d2_101 ((if0 _ _).trans (feq hc101).2) (by decide) (by decide) ?_
      exact J101_132
  refine OwnW.aload (pc' := 134) d2_132 rfl (rfl) rfl ?_
  refine OwnW.aloadN (pc' := 135) d2_134 rfl (rfl) rfl ?_
  refine OwnW.iload (pc' := 137) d2_135 rfl rfl ?_
  obtain ⟨cl14, Ar14, qk14, Sz14, Mn14, Hv14, Gf14⟩ := id F4
  refine OwnW.iaload (pc' := 138) (v := (.int g0)) d2_137 Ar14 (inb_of Sz14 ⟨by decide, by decide⟩) (Hv14.at (inb_of Sz14 ⟨by decide, by decide⟩) rfl) rfl ?_
  refine OwnW.dup2 (pc' := 139) d2_138 rfl rfl rfl ?_
  obtain ⟨C15, hC15⟩ : ∃ z : List Int32, z = [(0 : Int32), (0 : Int32), (0 : Int32), (0 : Int32)] := ⟨_, rfl⟩
  have VC15 : Arv Z h3 ad3 kc3 .int (4 : Int32) (C15.map Value.int) (.int (0 : Int32)) := by rw [hC15]; exact V3
  have lC15 : C15.length = 4 := by rw [hC15]; rfl
  obtain ⟨cl16, Ar16, qk16, Sz16, Mn16, Hv16, Gf16⟩ := id VC15
  refine OwnW.iaload (pc' := 140) (v := .int (C15.getD g0.toNatClampNeg 0)) d2_139 Ar16 (inb_of Sz16 (own_bd hg0)) (Hv16.at (inb_of Sz16 (own_bd hg0)) (own_gd C15 g0.toNatClampNeg)) rfl ?_
  show GoB2 l Z n0 (Q2 Z o q0 q1 kg ks g0 g1 g2 g3 s0 s1 s2 s3 h0) h3 1 4 140 #[.val (.ref o), .val (.ref q0), .val (.ref q1), .val (.int (3 : Int32)), .val (.ref ad3), .val (.int (0 : Int32)), .unset, .unset, .unset] [(.int (C15.getD g0.toNatClampNeg 0)), (.int g0), (.ref ad3)]
  refine OwnW.iconst (pc' := 141) (v := (1 : Int32)) d2_140 rfl rfl ?_
  refine OwnW.iadd (pc' := 142) d2_141 rfl ?_
  obtain ⟨cl17, Ar17, qk17, Sz17, Mn17, Hv17, Gf17⟩ := id VC15
  have bb17 := (own_bd hg0)
  refine OwnW.stI (pc' := 143) d2_142 Ar17 (inb_of Sz17 bb17) ge_ad3 rfl ?_
  intro h17 W17
  have sz19 : n0 ≤ h17.size := (by rw [W17.size]; exact sz_ad3)
  obtain ⟨C18, hC18⟩ : ∃ z : List Int32, z = (C15.set g0.toNatClampNeg ((C15.getD g0.toNatClampNeg 0) + (1 : Int32))) := ⟨_, rfl⟩
  have VC18 : Arv Z h17 ad3 kc3 .int (4 : Int32) (C18.map Value.int) (.int (0 : Int32)) := by rw [hC18, List.map_set]; exact Arv.set Ar17 qk17 Sz17 Mn17 Hv17 Gf17 rfl W17 g0.toNatClampNeg rfl (own_ln (z := (4 : Int32)) lC15 bb17 (by decide))
  have lC18 : C18.length = 4 := by rw [hC18, List.length_set]; exact lC15
  show GoB2 l Z n0 (Q2 Z o q0 q1 kg ks g0 g1 g2 g3 s0 s1 s2 s3 h0) h17 1 4 143 #[.val (.ref o), .val (.ref q0), .val (.ref q1), .val (.int (3 : Int32)), .val (.ref ad3), .val (.int (0 : Int32)), .unset, .unset, .unset] []
  refine OwnW.iinc (pc' := 146) (L' := #[.val (.ref o), .val (.ref q0), .val (.ref q1), .val (.int (3 : Int32)), .val (.ref ad3), .val (.int (1 : Int32)), .unset, .unset, .unset]) (d := (1 : Int32)) d2_143 rfl rfl rfl rfl ?_
  refine OwnW.goto (pc' := 38) d2_146 (by decide) (by decide) ?_
  refine OwnW.iload (pc' := 40) d2_38 rfl rfl ?_
  refine OwnW.aloadN (pc' := 41) d2_40 rfl (rfl) rfl ?_
  have F20 := (F4.other W17 (Nat.ne_of_lt lt_q0_ad3))
  obtain ⟨cl21, Ar21, qk21, Sz21, Mn21, Hv21, Gf21⟩ := id F20
  refine OwnW.alen (pc' := 42) (x := (4 : Int32)) d2_41 Ar21 (len_of Sz21 Mn21) rfl ?_
  refine OwnW.icmpN (pc' := 45) d2_42 (tlt (by decide)).2.1 rfl ?_
  refine OwnW.aloadN (pc' := 46) d2_45 rfl (rfl) rfl ?_
  refine OwnW.iload (pc' := 48) d2_46 rfl rfl ?_
  obtain ⟨cl22, Ar22, qk22, Sz22, Mn22, Hv22, Gf22⟩ := id F20
  refine OwnW.iaload (pc' := 49) (v := (.int g1)) d2_48 Ar22 (inb_of Sz22 ⟨by decide, by decide⟩) (Hv22.at (inb_of Sz22 ⟨by decide, by decide⟩) rfl) rfl ?_
  refine OwnW.ifcN (pc' := 52) d2_49 ((if0 _ _).trans (flt (own_gn hg1).1).1) rfl ?_
  refine OwnW.aloadN (pc' := 53) d2_52 rfl (rfl) rfl ?_
  refine OwnW.iload (pc' := 55) d2_53 rfl rfl ?_
  obtain ⟨cl23, Ar23, qk23, Sz23, Mn23, Hv23, Gf23⟩ := id F20
  refine OwnW.iaload (pc' := 56) (v := (.int g1)) d2_55 Ar23 (inb_of Sz23 ⟨by decide, by decide⟩) (Hv23.at (inb_of Sz23 ⟨by decide, by decide⟩) rfl) rfl ?_
  refine OwnW.iloadN (pc' := 57) d2_56 rfl rfl ?_
  refine OwnW.icmpY (pc' := 79) d2_57 (flt (own_gn hg1).2).2.2.2 (by decide) (by decide) ?_
  refine OwnW.aloadN (pc' := 80) d2_79 rfl (rfl) rfl ?_
  refine OwnW.iload (pc' := 82) d2_80 rfl rfl ?_
  have F24 := (F8.other W17 (Nat.ne_of_lt lt_q1_ad3))
  obtain ⟨cl25, Ar25, qk25, Sz25, Mn25, Hv25, Gf25⟩ := id F24
  refine OwnW.daload (pc' := 83) (v := (.double s1)) d2_82 Ar25 (inb_of Sz25 ⟨by decide, by decide⟩) (Hv25.at (inb_of Sz25 ⟨by decide, by decide⟩) rfl) rfl ?_
  refine OwnW.dconst0 (pc' := 84) (v := (0 : UInt64)) d2_83 (by decide +kernel) rfl ?_
  refine OwnW.dcmp (pc' := 85) d2_84 rfl rfl ?_
  refine OwnW.ifcN (pc' := 88) d2_85 ((if0 _ _).trans (flt (hs1).1).1) rfl ?_
  refine OwnW.aloadN (pc' := 89) d2_88 rfl (rfl) rfl ?_
  refine OwnW.iload (pc' := 91) d2_89 rfl rfl ?_
  obtain ⟨cl26, Ar26, qk26, Sz26, Mn26, Hv26, Gf26⟩ := id F24
  refine OwnW.daload (pc' := 92) (v := (.double s1)) d2_91 Ar26 (inb_of Sz26 ⟨by decide, by decide⟩) (Hv26.at (inb_of Sz26 ⟨by decide, by decide⟩) rfl) rfl ?_
  refine OwnW.dconst1 (pc' := 93) (v := (4607182418800017408 : UInt64)) d2_92 (by decide +kernel) rfl ?_
  refine OwnW.dcmp (pc' := 94) d2_93 rfl rfl ?_
  refine OwnW.ifcN (pc' := 97) d2_94 ((if0 _ _).trans (flt (hs1).2.1).2.2.1) rfl ?_
  refine OwnW.aloadN (pc' := 98) d2_97 rfl (rfl) rfl ?_
  refine OwnW.iload (pc' := 100) d2_98 rfl rfl ?_
  obtain ⟨cl27, Ar27, qk27, Sz27, Mn27, Hv27, Gf27⟩ := id F20
  refine OwnW.iaload (pc' := 101) (v := (.int g1)) d2_100 Ar27 (inb_of Sz27 ⟨by decide, by decide⟩) (Hv27.at (inb_of Sz27 ⟨by decide, by decide⟩) rfl) rfl ?_
  suffices J101_132 : GoB2 l Z n0 (Q2 Z o q0 q1 kg ks g0 g1 g2 g3 s0 s1 s2 s3 h0) h17 1 4 132 #[.val (.ref o), .val (.ref q0), .val (.ref q1), .val (.int (3 : Int32)), .val (.ref ad3), .val (.int (1 : Int32)), .unset, .unset, .unset] [] by
    by_cases hc101 : g1 = (0 : Int32)
    ·
      refine OwnW.ifcN (pc' := 104) d2_101 ((if0 _ _).trans (teq hc101).2) rfl ?_
      refine OwnW.aloadN (pc' := 105) d2_104 rfl (rfl) rfl ?_
      refine OwnW.iload (pc' := 107) d2_105 rfl rfl ?_
      obtain ⟨cl29, Ar29, qk29, Sz29, Mn29, Hv29, Gf29⟩ := id F24
      refine OwnW.daload (pc' := 108) (v := (.double s1)) d2_107 Ar29 (inb_of Sz29 ⟨by decide, by decide⟩) (Hv29.at (inb_of Sz29 ⟨by decide, by decide⟩) rfl) rfl ?_
      refine OwnW.dconst0 (pc' := 109) (v := (0 : UInt64)) d2_108 (by decide +kernel) rfl ?_
      refine OwnW.dcmp (pc' := 110) d2_109 rfl rfl ?_
      refine OwnW.ifcY (pc' := 132) d2_110 ((if0 _ _).trans (teq ((hs1).2.2.1 hc101)).1) (by decide) (by decide) ?_
      exact J101_132
    ·
      refine OwnW.ifcY (pc' := 132) d2_101 ((if0 _ _).trans (feq hc101).2) (by decide) (by decide) ?_
      exact J101_132
  refine OwnW.aload (pc' := 134) d2_132 rfl (rfl) rfl ?_
  refine OwnW.aloadN (pc' := 135) d2_134 rfl (rfl) rfl ?_
  refine OwnW.iload (pc' := 137) d2_135 rfl rfl ?_
  obtain ⟨cl30, Ar30, qk30, Sz30, Mn30, Hv30, Gf30⟩ := id F20
  refine OwnW.iaload (pc' := 138) (v := (.int g1)) d2_137 Ar30 (inb_of Sz30 ⟨by decide, by decide⟩) (Hv30.at (inb_of Sz30 ⟨by decide, by decide⟩) rfl) rfl ?_
  refine OwnW.dup2 (pc' := 139) d2_138 rfl rfl rfl ?_
  obtain ⟨cl31, Ar31, qk31, Sz31, Mn31, Hv31, Gf31⟩ := id VC18
  refine OwnW.iaload (pc' := 140) (v := .int (C18.getD g1.toNatClampNeg 0)) d2_139 Ar31 (inb_of Sz31 (own_bd hg1)) (Hv31.at (inb_of Sz31 (own_bd hg1)) (own_gd C18 g1.toNatClampNeg)) rfl ?_
  show GoB2 l Z n0 (Q2 Z o q0 q1 kg ks g0 g1 g2 g3 s0 s1 s2 s3 h0) h17 1 4 140 #[.val (.ref o), .val (.ref q0), .val (.ref q1), .val (.int (3 : Int32)), .val (.ref ad3), .val (.int (1 : Int32)), .unset, .unset, .unset] [(.int (C18.getD g1.toNatClampNeg 0)), (.int g1), (.ref ad3)]
  refine OwnW.iconst (pc' := 141) (v := (1 : Int32)) d2_140 rfl rfl ?_
  refine OwnW.iadd (pc' := 142) d2_141 rfl ?_
  obtain ⟨cl32, Ar32, qk32, Sz32, Mn32, Hv32, Gf32⟩ := id VC18
  have bb32 := (own_bd hg1)
  refine OwnW.stI (pc' := 143) d2_142 Ar32 (inb_of Sz32 bb32) ge_ad3 rfl ?_
  intro h32 W32
  have sz34 : n0 ≤ h32.size := (by rw [W32.size]; exact sz19)
  obtain ⟨C33, hC33⟩ : ∃ z : List Int32, z = (C18.set g1.toNatClampNeg ((C18.getD g1.toNatClampNeg 0) + (1 : Int32))) := ⟨_, rfl⟩
  have VC33 : Arv Z h32 ad3 kc3 .int (4 : Int32) (C33.map Value.int) (.int (0 : Int32)) := by rw [hC33, List.map_set]; exact Arv.set Ar32 qk32 Sz32 Mn32 Hv32 Gf32 rfl W32 g1.toNatClampNeg rfl (own_ln (z := (4 : Int32)) lC18 bb32 (by decide))
  have lC33 : C33.length = 4 := by rw [hC33, List.length_set]; exact lC18
  show GoB2 l Z n0 (Q2 Z o q0 q1 kg ks g0 g1 g2 g3 s0 s1 s2 s3 h0) h32 1 4 143 #[.val (.ref o), .val (.ref q0), .val (.ref q1), .val (.int (3 : Int32)), .val (.ref ad3), .val (.int (1 : Int32)), .unset, .unset, .unset] []
  refine OwnW.iinc (pc' := 146) (L' := #[.val (.ref o), .val (.ref q0), .val (.ref q1), .val (.int (3 : Int32)), .val (.ref ad3), .val (.int (2 : Int32)), .unset, .unset, .unset]) (d := (1 : Int32)) d2_143 rfl rfl rfl rfl ?_
  refine OwnW.goto (pc' := 38) d2_146 (by decide) (by decide) ?_
  refine OwnW.iload (pc' := 40) d2_38 rfl rfl ?_
  refine OwnW.aloadN (pc' := 41) d2_40 rfl (rfl) rfl ?_
  have F35 := (F20.other W32 (Nat.ne_of_lt lt_q0_ad3))
  obtain ⟨cl36, Ar36, qk36, Sz36, Mn36, Hv36, Gf36⟩ := id F35
  refine OwnW.alen (pc' := 42) (x := (4 : Int32)) d2_41 Ar36 (len_of Sz36 Mn36) rfl ?_
  refine OwnW.icmpN (pc' := 45) d2_42 (tlt (by decide)).2.1 rfl ?_
  refine OwnW.aloadN (pc' := 46) d2_45 rfl (rfl) rfl ?_
  refine OwnW.iload (pc' := 48) d2_46 rfl rfl ?_
  obtain ⟨cl37, Ar37, qk37, Sz37, Mn37, Hv37, Gf37⟩ := id F35
  refine OwnW.iaload (pc' := 49) (v := (.int g2)) d2_48 Ar37 (inb_of Sz37 ⟨by decide, by decide⟩) (Hv37.at (inb_of Sz37 ⟨by decide, by decide⟩) rfl) rfl ?_
  refine OwnW.ifcN (pc' := 52) d2_49 ((if0 _ _).trans (flt (own_gn hg2).1).1) rfl ?_
  refine OwnW.aloadN (pc' := 53) d2_52 rfl (rfl) rfl ?_
  refine OwnW.iload (pc' := 55) d2_53 rfl rfl ?_
  obtain ⟨cl38, Ar38, qk38, Sz38, Mn38, Hv38, Gf38⟩ := id F35
  refine OwnW.iaload (pc' := 56) (v := (.int g2)) d2_55 Ar38 (inb_of Sz38 ⟨by decide, by decide⟩) (Hv38.at (inb_of Sz38 ⟨by decide, by decide⟩) rfl) rfl ?_
  refine OwnW.iloadN (pc' := 57) d2_56 rfl rfl ?_
  refine OwnW.icmpY (pc' := 79) d2_57 (flt (own_gn hg2).2).2.2.2 (by decide) (by decide) ?_
  refine OwnW.aloadN (pc' := 80) d2_79 rfl (rfl) rfl ?_
  refine OwnW.iload (pc' := 82) d2_80 rfl rfl ?_
  have F39 := (F24.other W32 (Nat.ne_of_lt lt_q1_ad3))
  obtain ⟨cl40, Ar40, qk40, Sz40, Mn40, Hv40, Gf40⟩ := id F39
  refine OwnW.daload (pc' := 83) (v := (.double s2)) d2_82 Ar40 (inb_of Sz40 ⟨by decide, by decide⟩) (Hv40.at (inb_of Sz40 ⟨by decide, by decide⟩) rfl) rfl ?_
  refine OwnW.dconst0 (pc' := 84) (v := (0 : UInt64)) d2_83 (by decide +kernel) rfl ?_
  refine OwnW.dcmp (pc' := 85) d2_84 rfl rfl ?_
  refine OwnW.ifcN (pc' := 88) d2_85 ((if0 _ _).trans (flt (hs2).1).1) rfl ?_
  refine OwnW.aloadN (pc' := 89) d2_88 rfl (rfl) rfl ?_
  refine OwnW.iload (pc' := 91) d2_89 rfl rfl ?_
  obtain ⟨cl41, Ar41, qk41, Sz41, Mn41, Hv41, Gf41⟩ := id F39
  refine OwnW.daload (pc' := 92) (v := (.double s2)) d2_91 Ar41 (inb_of Sz41 ⟨by decide, by decide⟩) (Hv41.at (inb_of Sz41 ⟨by decide, by decide⟩) rfl) rfl ?_
  refine OwnW.dconst1 (pc' := 93) (v := (4607182418800017408 : UInt64)) d2_92 (by decide +kernel) rfl ?_
  refine OwnW.dcmp (pc' := 94) d2_93 rfl rfl ?_
  refine OwnW.ifcN (pc' := 97) d2_94 ((if0 _ _).trans (flt (hs2).2.1).2.2.1) rfl ?_
  refine OwnW.aloadN (pc' := 98) d2_97 rfl (rfl) rfl ?_
  refine OwnW.iload (pc' := 100) d2_98 rfl rfl ?_
  obtain ⟨cl42, Ar42, qk42, Sz42, Mn42, Hv42, Gf42⟩ := id F35
  refine OwnW.iaload (pc' := 101) (v := (.int g2)) d2_100 Ar42 (inb_of Sz42 ⟨by decide, by decide⟩) (Hv42.at (inb_of Sz42 ⟨by decide, by decide⟩) rfl) rfl ?_
  suffices J101_132 : GoB2 l Z n0 (Q2 Z o q0 q1 kg ks g0 g1 g2 g3 s0 s1 s2 s3 h0) h32 1 4 132 #[.val (.ref o), .val (.ref q0), .val (.ref q1), .val (.int (3 : Int32)), .val (.ref ad3), .val (.int (2 : Int32)), .unset, .unset, .unset] [] by
    by_cases hc101 : g2 = (0 : Int32)
    ·
      refine OwnW.ifcN (pc' := 104) d2_101 ((if0 _ _).trans (teq hc101).2) rfl ?_
      refine OwnW.aloadN (pc' := 105) d2_104 rfl (rfl) rfl ?_
      refine OwnW.iload (pc' := 107) d2_105 rfl rfl ?_
      obtain ⟨cl44, Ar44, qk44, Sz44, Mn44, Hv44, Gf44⟩ := id F39
      refine OwnW.daload (pc' := 108) (v := (.double s2)) d2_107 Ar44 (inb_of Sz44 ⟨by decide, by decide⟩) (Hv44.at (inb_of Sz44 ⟨by decide, by decide⟩) rfl) rfl ?_
      refine OwnW.dconst0 (pc' := 109) (v := (0 : UInt64)) d2_108 (by decide +kernel) rfl ?_
      refine OwnW.dcmp (pc' := 110) d2_109 rfl rfl ?_
      refine OwnW.ifcY (pc' := 132) d2_110 ((if0 _ _).trans (teq ((hs2).2.2.1 hc101)).1) (by decide) (by decide) ?_
      exact J101_132
    ·
      refine OwnW.ifcY (pc' := 132) d2_101 ((if0 _ _).trans (feq hc101).2) (by decide) (by decide) ?_
      exact J101_132
  refine OwnW.aload (pc' := 134) d2_132 rfl (rfl) rfl ?_
  refine OwnW.aloadN (pc' := 135) d2_134 rfl (rfl) rfl ?_
  refine OwnW.iload (pc' := 137) d2_135 rfl rfl ?_
  obtain ⟨cl45, Ar45, qk45, Sz45, Mn45, Hv45, Gf45⟩ := id F35
  refine OwnW.iaload (pc' := 138) (v := (.int g2)) d2_137 Ar45 (inb_of Sz45 ⟨by decide, by decide⟩) (Hv45.at (inb_of Sz45 ⟨by decide, by decide⟩) rfl) rfl ?_
  refine OwnW.dup2 (pc' := 139) d2_138 rfl rfl rfl ?_
  obtain ⟨cl46, Ar46, qk46, Sz46, Mn46, Hv46, Gf46⟩ := id VC33
  refine OwnW.iaload (pc' := 140) (v := .int (C33.getD g2.toNatClampNeg 0)) d2_139 Ar46 (inb_of Sz46 (own_bd hg2)) (Hv46.at (inb_of Sz46 (own_bd hg2)) (own_gd C33 g2.toNatClampNeg)) rfl ?_
  show GoB2 l Z n0 (Q2 Z o q0 q1 kg ks g0 g1 g2 g3 s0 s1 s2 s3 h0) h32 1 4 140 #[.val (.ref o), .val (.ref q0), .val (.ref q1), .val (.int (3 : Int32)), .val (.ref ad3), .val (.int (2 : Int32)), .unset, .unset, .unset] [(.int (C33.getD g2.toNatClampNeg 0)), (.int g2), (.ref ad3)]
  refine OwnW.iconst (pc' := 141) (v := (1 : Int32)) d2_140 rfl rfl ?_
  refine OwnW.iadd (pc' := 142) d2_141 rfl ?_
  obtain ⟨cl47, Ar47, qk47, Sz47, Mn47, Hv47, Gf47⟩ := id VC33
  have bb47 := (own_bd hg2)
  refine OwnW.stI (pc' := 143) d2_142 Ar47 (inb_of Sz47 bb47) ge_ad3 rfl ?_
  intro h47 W47
  have sz49 : n0 ≤ h47.size := (by rw [W47.size]; exact sz34)
  obtain ⟨C48, hC48⟩ : ∃ z : List Int32, z = (C33.set g2.toNatClampNeg ((C33.getD g2.toNatClampNeg 0) + (1 : Int32))) := ⟨_, rfl⟩
  have VC48 : Arv Z h47 ad3 kc3 .int (4 : Int32) (C48.map Value.int) (.int (0 : Int32)) := by rw [hC48, List.map_set]; exact Arv.set Ar47 qk47 Sz47 Mn47 Hv47 Gf47 rfl W47 g2.toNatClampNeg rfl (own_ln (z := (4 : Int32)) lC33 bb47 (by decide))
  have lC48 : C48.length = 4 := by rw [hC48, List.length_set]; exact lC33
  show GoB2 l Z n0 (Q2 Z o q0 q1 kg ks g0 g1 g2 g3 s0 s1 s2 s3 h0) h47 1 4 143 #[.val (.ref o), .val (.ref q0), .val (.ref q1), .val (.int (3 : Int32)), .val (.ref ad3), .val (.int (2 : Int32)), .unset, .unset, .unset] []
  refine OwnW.iinc (pc' := 146) (L' := #[.val (.ref o), .val (.ref q0), .val (.ref q1), .val (.int (3 : Int32)), .val (.ref ad3), .val (.int (3 : Int32)), .unset, .unset, .unset]) (d := (1 : Int32)) d2_143 rfl rfl rfl rfl ?_
  refine OwnW.goto (pc' := 38) d2_146 (by decide) (by decide) ?_
  refine OwnW.iload (pc' := 40) d2_38 rfl rfl ?_
  refine OwnW.aloadN (pc' := 41) d2_40 rfl (rfl) rfl ?_
  have F50 := (F35.other W47 (Nat.ne_of_lt lt_q0_ad3))
  obtain ⟨cl51, Ar51, qk51, Sz51, Mn51, Hv51, Gf51⟩ := id F50
  refine OwnW.alen (pc' := 42) (x := (4 : Int32)) d2_41 Ar51 (len_of Sz51 Mn51) rfl ?_
  refine OwnW.icmpN (pc' := 45) d2_42 (tlt (by decide)).2.1 rfl ?_
  refine OwnW.aloadN (pc' := 46) d2_45 rfl (rfl) rfl ?_
  refine OwnW.iload (pc' := 48) d2_46 rfl rfl ?_
  obtain ⟨cl52, Ar52, qk52, Sz52, Mn52, Hv52, Gf52⟩ := id F50
  refine OwnW.iaload (pc' := 49) (v := (.int g3)) d2_48 Ar52 (inb_of Sz52 ⟨by decide, by decide⟩) (Hv52.at (inb_of Sz52 ⟨by decide, by decide⟩) rfl) rfl ?_
  refine OwnW.ifcN (pc' := 52) d2_49 ((if0 _ _).trans (flt (own_gn hg3).1).1) rfl ?_
  refine OwnW.aloadN (pc' := 53) d2_52 rfl (rfl) rfl ?_
  refine OwnW.iload (pc' := 55) d2_53 rfl rfl ?_
  obtain ⟨cl53, Ar53, qk53, Sz53, Mn53, Hv53, Gf53⟩ := id F50
  refine OwnW.iaload (pc' := 56) (v := (.int g3)) d2_55 Ar53 (inb_of Sz53 ⟨by decide, by decide⟩) (Hv53.at (inb_of Sz53 ⟨by decide, by decide⟩) rfl) rfl ?_
  refine OwnW.iloadN (pc' := 57) d2_56 rfl rfl ?_
  refine OwnW.icmpY (pc' := 79) d2_57 (flt (own_gn hg3).2).2.2.2 (by decide) (by decide) ?_
  refine OwnW.aloadN (pc' := 80) d2_79 rfl (rfl) rfl ?_
  refine OwnW.iload (pc' := 82) d2_80 rfl rfl ?_
  have F54 := (F39.other W47 (Nat.ne_of_lt lt_q1_ad3))
  obtain ⟨cl55, Ar55, qk55, Sz55, Mn55, Hv55, Gf55⟩ := id F54
  refine OwnW.daload (pc' := 83) (v := (.double s3)) d2_82 Ar55 (inb_of Sz55 ⟨by decide, by decide⟩) (Hv55.at (inb_of Sz55 ⟨by decide, by decide⟩) rfl) rfl ?_
  refine OwnW.dconst0 (pc' := 84) (v := (0 : UInt64)) d2_83 (by decide +kernel) rfl ?_
  refine OwnW.dcmp (pc' := 85) d2_84 rfl rfl ?_
  refine OwnW.ifcN (pc' := 88) d2_85 ((if0 _ _).trans (flt (hs3).1).1) rfl ?_
  refine OwnW.aloadN (pc' := 89) d2_88 rfl (rfl) rfl ?_
  refine OwnW.iload (pc' := 91) d2_89 rfl rfl ?_
  obtain ⟨cl56, Ar56, qk56, Sz56, Mn56, Hv56, Gf56⟩ := id F54
  refine OwnW.daload (pc' := 92) (v := (.double s3)) d2_91 Ar56 (inb_of Sz56 ⟨by decide, by decide⟩) (Hv56.at (inb_of Sz56 ⟨by decide, by decide⟩) rfl) rfl ?_
  refine OwnW.dconst1 (pc' := 93) (v := (4607182418800017408 : UInt64)) d2_92 (by decide +kernel) rfl ?_
  refine OwnW.dcmp (pc' := 94) d2_93 rfl rfl ?_
  refine OwnW.ifcN (pc' := 97) d2_94 ((if0 _ _).trans (flt (hs3).2.1).2.2.1) rfl ?_
  refine OwnW.aloadN (pc' := 98) d2_97 rfl (rfl) rfl ?_
  refine OwnW.iload (pc' := 100) d2_98 rfl rfl ?_
  obtain ⟨cl57, Ar57, qk57, Sz57, Mn57, Hv57, Gf57⟩ := id F50
  refine OwnW.iaload (pc' := 101) (v := (.int g3)) d2_100 Ar57 (inb_of Sz57 ⟨by decide, by decide⟩) (Hv57.at (inb_of Sz57 ⟨by decide, by decide⟩) rfl) rfl ?_
  suffices J101_132 : GoB2 l Z n0 (Q2 Z o q0 q1 kg ks g0 g1 g2 g3 s0 s1 s2 s3 h0) h47 1 4 132 #[.val (.ref o), .val (.ref q0), .val (.ref q1), .val (.int (3 : Int32)), .val (.ref ad3), .val (.int (3 : Int32)), .unset, .unset, .unset] [] by
    by_cases hc101 : g3 = (0 : Int32)
    ·
      refine OwnW.ifcN (pc' := 104) d2_101 ((if0 _ _).trans (teq hc101).2) rfl ?_
      refine OwnW.aloadN (pc' := 105) d2_104 rfl (rfl) rfl ?_
      refine OwnW.iload (pc' := 107) d2_105 rfl rfl ?_
      obtain ⟨cl59, Ar59, qk59, Sz59, Mn59, Hv59, Gf59⟩ := id F54
      refine OwnW.daload (pc' := 108) (v := (.double s3)) d2_107 Ar59 (inb_of Sz59 ⟨by decide, by decide⟩) (Hv59.at (inb_of Sz59 ⟨by decide, by decide⟩) rfl) rfl ?_
      refine OwnW.dconst0 (pc' := 109) (v := (0 : UInt64)) d2_108 (by decide +kernel) rfl ?_
      refine OwnW.dcmp (pc' := 110) d2_109 rfl rfl ?_
      refine OwnW.ifcY (pc' := 132) d2_110 ((if0 _ _).trans (teq ((hs3).2.2.1 hc101)).1) (by decide) (by decide) ?_
      exact J101_132
    ·
      refine OwnW.ifcY (pc' := 132) d2_101 ((if0 _ _).trans (feq hc101).2) (by decide) (by decide) ?_
      exact J101_132
  refine OwnW.aload (pc' := 134) d2_132 rfl (rfl) rfl ?_
  refine OwnW.aloadN (pc' := 135) d2_134 rfl (rfl) rfl ?_
  refine OwnW.iload (pc' := 137) d2_135 rfl rfl ?_
  obtain ⟨cl60, Ar60, qk60, Sz60, Mn60, Hv60, Gf60⟩ := id F50
  refine OwnW.iaload (pc' := 138) (v := (.int g3)) d2_137 Ar60 (inb_of Sz60 ⟨by decide, by decide⟩) (Hv60.at (inb_of Sz60 ⟨by decide, by decide⟩) rfl) rfl ?_
  refine OwnW.dup2 (pc' := 139) d2_138 rfl rfl rfl ?_
  obtain ⟨cl61, Ar61, qk61, Sz61, Mn61, Hv61, Gf61⟩ := id VC48
  refine OwnW.iaload (pc' := 140) (v := .int (C48.getD g3.toNatClampNeg 0)) d2_139 Ar61 (inb_of Sz61 (own_bd hg3)) (Hv61.at (inb_of Sz61 (own_bd hg3)) (own_gd C48 g3.toNatClampNeg)) rfl ?_
  show GoB2 l Z n0 (Q2 Z o q0 q1 kg ks g0 g1 g2 g3 s0 s1 s2 s3 h0) h47 1 4 140 #[.val (.ref o), .val (.ref q0), .val (.ref q1), .val (.int (3 : Int32)), .val (.ref ad3), .val (.int (3 : Int32)), .unset, .unset, .unset] [(.int (C48.getD g3.toNatClampNeg 0)), (.int g3), (.ref ad3)]
  refine OwnW.iconst (pc' := 141) (v := (1 : Int32)) d2_140 rfl rfl ?_
  refine OwnW.iadd (pc' := 142) d2_141 rfl ?_
  obtain ⟨cl62, Ar62, qk62, Sz62, Mn62, Hv62, Gf62⟩ := id VC48
  have bb62 := (own_bd hg3)
  refine OwnW.stI (pc' := 143) d2_142 Ar62 (inb_of Sz62 bb62) ge_ad3 rfl ?_
  intro h62 W62
  have sz64 : n0 ≤ h62.size := (by rw [W62.size]; exact sz49)
  obtain ⟨C63, hC63⟩ : ∃ z : List Int32, z = (C48.set g3.toNatClampNeg ((C48.getD g3.toNatClampNeg 0) + (1 : Int32))) := ⟨_, rfl⟩
  have VC63 : Arv Z h62 ad3 kc3 .int (4 : Int32) (C63.map Value.int) (.int (0 : Int32)) := by rw [hC63, List.map_set]; exact Arv.set Ar62 qk62 Sz62 Mn62 Hv62 Gf62 rfl W62 g3.toNatClampNeg rfl (own_ln (z := (4 : Int32)) lC48 bb62 (by decide))
  have lC63 : C63.length = 4 := by rw [hC63, List.length_set]; exact lC48
  show GoB2 l Z n0 (Q2 Z o q0 q1 kg ks g0 g1 g2 g3 s0 s1 s2 s3 h0) h62 1 4 143 #[.val (.ref o), .val (.ref q0), .val (.ref q1), .val (.int (3 : Int32)), .val (.ref ad3), .val (.int (3 : Int32)), .unset, .unset, .unset] []
  refine OwnW.iinc (pc' := 146) (L' := #[.val (.ref o), .val (.ref q0), .val (.ref q1), .val (.int (3 : Int32)), .val (.ref ad3), .val (.int (4 : Int32)), .unset, .unset, .unset]) (d := (1 : Int32)) d2_143 rfl rfl rfl rfl ?_
  refine OwnW.goto (pc' := 38) d2_146 (by decide) (by decide) ?_
  refine OwnW.iload (pc' := 40) d2_38 rfl rfl ?_
  refine OwnW.aloadN (pc' := 41) d2_40 rfl (rfl) rfl ?_
  have F65 := (F50.other W62 (Nat.ne_of_lt lt_q0_ad3))
  obtain ⟨cl66, Ar66, qk66, Sz66, Mn66, Hv66, Gf66⟩ := id F65
  refine OwnW.alen (pc' := 42) (x := (4 : Int32)) d2_41 Ar66 (len_of Sz66 Mn66) rfl ?_
  refine OwnW.icmpY (pc' := 149) d2_42 (flt (by decide)).2.1 (by decide) (by decide) ?_
  refine OwnW.iloadN (pc' := 150) d2_149 rfl rfl ?_
  refine OwnW.iconst (pc' := 151) (v := (2 : Int32)) d2_150 rfl rfl ?_
  refine OwnW.iadd (pc' := 152) d2_151 rfl ?_
  show GoB2 l Z n0 (Q2 Z o q0 q1 kg ks g0 g1 g2 g3 s0 s1 s2 s3 h0) h62 1 4 152 #[.val (.ref o), .val (.ref q0), .val (.ref q1), .val (.int (3 : Int32)), .val (.ref ad3), .val (.int (4 : Int32)), .unset, .unset, .unset] [(.int (5 : Int32))]
  refine OwnW.newP (a0 := a0) (pc' := 154) (cap := 5) (k' := 2) (n' := 9) d2_152 (hw _ (List.mem_of_getElem? (i := 4) rfl)) (by decide) (by decide) (by decide) rfl rfl (by decide) (by decide) rfl ?_
  intro h67 kc67 ad67 gq67 E67 A67
  have lt_o_ad67 : @LT.lt Nat _ o ad67 := Nat.lt_of_lt_of_le ((((((E_o.ext E3).wr W17).wr W32).wr W47).wr W62)).lt (Nat.le_of_eq gq67.symm)
  have lt_q0_ad67 : @LT.lt Nat _ q0 ad67 := Nat.lt_of_lt_of_le (F65).lt (Nat.le_of_eq gq67.symm)
  have lt_q1_ad67 : @LT.lt Nat _ q1 ad67 := Nat.lt_of_lt_of_le ((F54.other W62 (Nat.ne_of_lt lt_q1_ad3))).lt (Nat.le_of_eq gq67.symm)
  have lt_ad3_ad67 : @LT.lt Nat _ ad3 ad67 := Nat.lt_of_lt_of_le (VC63).lt (Nat.le_of_eq gq67.symm)
  have ge_ad67 : n0 ≤ ad67 := Nat.le_trans sz64 (Nat.le_of_eq gq67.symm)
  have sz_ad67 : n0 ≤ h67.size := Nat.le_trans sz64 E67.1
  have V67 : Arv Z h67 ad67 kc67 .int (5 : Int32) [(.int (0 : Int32)), (.int (0 : Int32)), (.int (0 : Int32)), (.int (0 : Int32)), (.int (0 : Int32))] (.int (0 : Int32)) := (Arv.new A67 (by decide)).pad (pad_rep [] _ 5)
  refine OwnW.astore (pc' := 156) (L' := #[.val (.ref o), .val (.ref q0), .val (.ref q1), .val (.int (3 : Int32)), .val (.ref ad3), .val (.ref ad67), .unset, .unset, .unset]) d2_154 (rfl) rfl rfl ?_
  refine OwnW.iconst (pc' := 157) (v := (1 : Int32)) d2_156 rfl rfl ?_
  refine OwnW.istore (pc' := 159) (L' := #[.val (.ref o), .val (.ref q0), .val (.ref q1), .val (.int (3 : Int32)), .val (.ref ad3), .val (.ref ad67), .val (.int (1 : Int32)), .unset, .unset]) d2_157 rfl rfl ?_
  refine OwnW.iload (pc' := 161) d2_159 rfl rfl ?_
  refine OwnW.iloadN (pc' := 162) d2_161 rfl rfl ?_
  refine OwnW.icmpN (pc' := 165) d2_162 (flt (by decide)).2.2.1 rfl ?_
  refine OwnW.aload (pc' := 167) d2_165 rfl (rfl) rfl ?_
  refine OwnW.iload (pc' := 169) d2_167 rfl rfl ?_
  refine OwnW.iconst (pc' := 170) (v := (1 : Int32)) d2_169 rfl rfl ?_
  refine OwnW.iadd (pc' := 171) d2_170 rfl ?_
  show GoB2 l Z n0 (Q2 Z o q0 q1 kg ks g0 g1 g2 g3 s0 s1 s2 s3 h0) h67 2 9 171 #[.val (.ref o), .val (.ref q0), .val (.ref q1), .val (.int (3 : Int32)), .val (.ref ad3), .val (.ref ad67), .val (.int (1 : Int32)), .unset, .unset] [(.int (2 : Int32)), (.ref ad67)]
  refine OwnW.aload (pc' := 173) d2_171 rfl (rfl) rfl ?_
  refine OwnW.iload (pc' := 175) d2_173 rfl rfl ?_
  obtain ⟨C68, hC68⟩ : ∃ z : List Int32, z = [(0 : Int32), (0 : Int32), (0 : Int32), (0 : Int32), (0 : Int32)] := ⟨_, rfl⟩
  have VC68 : Arv Z h67 ad67 kc67 .int (5 : Int32) (C68.map Value.int) (.int (0 : Int32)) := by rw [hC68]; exact V67
  have lC68 : C68.length = 5 := by rw [hC68]; rfl
  obtain ⟨cl69, Ar69, qk69, Sz69, Mn69, Hv69, Gf69⟩ := id VC68
  refine OwnW.iaload (pc' := 176) (v := .int (C68.getD 1 0)) d2_175 Ar69 (inb_of Sz69 ⟨by decide, by decide⟩) (Hv69.at (inb_of Sz69 ⟨by decide, by decide⟩) (own_gd C68 1)) rfl ?_
  show GoB2 l Z n0 (Q2 Z o q0 q1 kg ks g0 g1 g2 g3 s0 s1 s2 s3 h0) h67 2 9 176 #[.val (.ref o), .val (.ref q0), .val (.ref q1), .val (.int (3 : Int32)), .val (.ref ad3), .val (.ref ad67), .val (.int (1 : Int32)), .unset, .unset] [(.int (C68.getD 1 0)), (.int (2 : Int32)), (.ref ad67)]
  refine OwnW.aload (pc' := 178) d2_176 rfl (rfl) rfl ?_
  refine OwnW.iload (pc' := 180) d2_178 rfl rfl ?_
  have F70 := (VC63.ext E67)
  obtain ⟨cl71, Ar71, qk71, Sz71, Mn71, Hv71, Gf71⟩ := id F70
  refine OwnW.iaload (pc' := 181) (v := .int (C63.getD 1 0)) d2_180 Ar71 (inb_of Sz71 ⟨by decide, by decide⟩) (Hv71.at (inb_of Sz71 ⟨by decide, by decide⟩) (own_gd C63 1)) rfl ?_
  show GoB2 l Z n0 (Q2 Z o q0 q1 kg ks g0 g1 g2 g3 s0 s1 s2 s3 h0) h67 2 9 181 #[.val (.ref o), .val (.ref q0), .val (.ref q1), .val (.int (3 : Int32)), .val (.ref ad3), .val (.ref ad67), .val (.int (1 : Int32)), .unset, .unset] [(.int (C63.getD 1 0)), (.int (C68.getD 1 0)), (.int (2 : Int32)), (.ref ad67)]
  refine OwnW.iadd (pc' := 182) d2_181 rfl ?_
  obtain ⟨cl72, Ar72, qk72, Sz72, Mn72, Hv72, Gf72⟩ := id VC68
  skip
  refine OwnW.stI (pc' := 183) d2_182 Ar72 (inb_of Sz72 ⟨by decide, by decide⟩) ge_ad67 rfl ?_
  intro h72 W72
  have sz74 : n0 ≤ h72.size := (by rw [W72.size]; exact sz_ad67)
  obtain ⟨C73, hC73⟩ : ∃ z : List Int32, z = (C68.set 2 ((C68.getD 1 0) + (C63.getD 1 0))) := ⟨_, rfl⟩
  have VC73 : Arv Z h72 ad67 kc67 .int (5 : Int32) (C73.map Value.int) (.int (0 : Int32)) := by rw [hC73, List.map_set]; exact Arv.set Ar72 qk72 Sz72 Mn72 Hv72 Gf72 rfl W72 2 rfl (by rw [List.length_map, lC68]; decide)
  have lC73 : C73.length = 5 := by rw [hC73, List.length_set]; exact lC68
  show GoB2 l Z n0 (Q2 Z o q0 q1 kg ks g0 g1 g2 g3 s0 s1 s2 s3 h0) h72 2 9 183 #[.val (.ref o), .val (.ref q0), .val (.ref q1), .val (.int (3 : Int32)), .val (.ref ad3), .val (.ref ad67), .val (.int (1 : Int32)), .unset, .unset] []
  refine OwnW.iinc (pc' := 186) (L' := #[.val (.ref o), .val (.ref q0), .val (.ref q1), .val (.int (3 : Int32)), .val (.ref ad3), .val (.ref ad67), .val (.int (2 : Int32)), .unset, .unset]) (d := (1 : Int32)) d2_183 rfl rfl rfl rfl ?_
  refine OwnW.goto (pc' := 159) d2_186 (by decide) (by decide) ?_
  refine OwnW.iload (pc' := 161) d2_159 rfl rfl ?_
  refine OwnW.iloadN (pc' := 162) d2_161 rfl rfl ?_
  refine OwnW.icmpN (pc' := 165) d2_162 (flt (by decide)).2.2.1 rfl ?_
  refine OwnW.aload (pc' := 167) d2_165 rfl (rfl) rfl ?_
  refine OwnW.iload (pc' := 169) d2_167 rfl rfl ?_
  refine OwnW.iconst (pc' := 170) (v := (1 : Int32)) d2_169 rfl rfl ?_
  refine OwnW.iadd (pc' := 171) d2_170 rfl ?_
  show GoB2 l Z n0 (Q2 Z o q0 q1 kg ks g0 g1 g2 g3 s0 s1 s2 s3 h0) h72 2 9 171 #[.val (.ref o), .val (.ref q0), .val (.ref q1), .val (.int (3 : Int32)), .val (.ref ad3), .val (.ref ad67), .val (.int (2 : Int32)), .unset, .unset] [(.int (3 : Int32)), (.ref ad67)]
  refine OwnW.aload (pc' := 173) d2_171 rfl (rfl) rfl ?_
  refine OwnW.iload (pc' := 175) d2_173 rfl rfl ?_
  obtain ⟨cl75, Ar75, qk75, Sz75, Mn75, Hv75, Gf75⟩ := id VC73
  refine OwnW.iaload (pc' := 176) (v := .int (C73.getD 2 0)) d2_175 Ar75 (inb_of Sz75 ⟨by decide, by decide⟩) (Hv75.at (inb_of Sz75 ⟨by decide, by decide⟩) (own_gd C73 2)) rfl ?_
  show GoB2 l Z n0 (Q2 Z o q0 q1 kg ks g0 g1 g2 g3 s0 s1 s2 s3 h0) h72 2 9 176 #[.val (.ref o), .val (.ref q0), .val (.ref q1), .val (.int (3 : Int32)), .val (.ref ad3), .val (.ref ad67), .val (.int (2 : Int32)), .unset, .unset] [(.int (C73.getD 2 0)), (.int (3 : Int32)), (.ref ad67)]
  refine OwnW.aload (pc' := 178) d2_176 rfl (rfl) rfl ?_
  refine OwnW.iload (pc' := 180) d2_178 rfl rfl ?_
  have F76 := (F70.other W72 (Nat.ne_of_lt lt_ad3_ad67))
  obtain ⟨cl77, Ar77, qk77, Sz77, Mn77, Hv77, Gf77⟩ := id F76
  refine OwnW.iaload (pc' := 181) (v := .int (C63.getD 2 0)) d2_180 Ar77 (inb_of Sz77 ⟨by decide, by decide⟩) (Hv77.at (inb_of Sz77 ⟨by decide, by decide⟩) (own_gd C63 2)) rfl ?_
  show GoB2 l Z n0 (Q2 Z o q0 q1 kg ks g0 g1 g2 g3 s0 s1 s2 s3 h0) h72 2 9 181 #[.val (.ref o), .val (.ref q0), .val (.ref q1), .val (.int (3 : Int32)), .val (.ref ad3), .val (.ref ad67), .val (.int (2 : Int32)), .unset, .unset] [(.int (C63.getD 2 0)), (.int (C73.getD 2 0)), (.int (3 : Int32)), (.ref ad67)]
  refine OwnW.iadd (pc' := 182) d2_181 rfl ?_
  obtain ⟨cl78, Ar78, qk78, Sz78, Mn78, Hv78, Gf78⟩ := id VC73
  skip
  refine OwnW.stI (pc' := 183) d2_182 Ar78 (inb_of Sz78 ⟨by decide, by decide⟩) ge_ad67 rfl ?_
  intro h78 W78
  have sz80 : n0 ≤ h78.size := (by rw [W78.size]; exact sz74)
  obtain ⟨C79, hC79⟩ : ∃ z : List Int32, z = (C73.set 3 ((C73.getD 2 0) + (C63.getD 2 0))) := ⟨_, rfl⟩
  have VC79 : Arv Z h78 ad67 kc67 .int (5 : Int32) (C79.map Value.int) (.int (0 : Int32)) := by rw [hC79, List.map_set]; exact Arv.set Ar78 qk78 Sz78 Mn78 Hv78 Gf78 rfl W78 3 rfl (by rw [List.length_map, lC73]; decide)
  have lC79 : C79.length = 5 := by rw [hC79, List.length_set]; exact lC73
  show GoB2 l Z n0 (Q2 Z o q0 q1 kg ks g0 g1 g2 g3 s0 s1 s2 s3 h0) h78 2 9 183 #[.val (.ref o), .val (.ref q0), .val (.ref q1), .val (.int (3 : Int32)), .val (.ref ad3), .val (.ref ad67), .val (.int (2 : Int32)), .unset, .unset] []
  refine OwnW.iinc (pc' := 186) (L' := #[.val (.ref o), .val (.ref q0), .val (.ref q1), .val (.int (3 : Int32)), .val (.ref ad3), .val (.ref ad67), .val (.int (3 : Int32)), .unset, .unset]) (d := (1 : Int32)) d2_183 rfl rfl rfl rfl ?_
  refine OwnW.goto (pc' := 159) d2_186 (by decide) (by decide) ?_
  refine OwnW.iload (pc' := 161) d2_159 rfl rfl ?_
  refine OwnW.iloadN (pc' := 162) d2_161 rfl rfl ?_
  refine OwnW.icmpN (pc' := 165) d2_162 (flt (by decide)).2.2.1 rfl ?_
  refine OwnW.aload (pc' := 167) d2_165 rfl (rfl) rfl ?_
  refine OwnW.iload (pc' := 169) d2_167 rfl rfl ?_
  refine OwnW.iconst (pc' := 170) (v := (1 : Int32)) d2_169 rfl rfl ?_
  refine OwnW.iadd (pc' := 171) d2_170 rfl ?_
  show GoB2 l Z n0 (Q2 Z o q0 q1 kg ks g0 g1 g2 g3 s0 s1 s2 s3 h0) h78 2 9 171 #[.val (.ref o), .val (.ref q0), .val (.ref q1), .val (.int (3 : Int32)), .val (.ref ad3), .val (.ref ad67), .val (.int (3 : Int32)), .unset, .unset] [(.int (4 : Int32)), (.ref ad67)]
  refine OwnW.aload (pc' := 173) d2_171 rfl (rfl) rfl ?_
  refine OwnW.iload (pc' := 175) d2_173 rfl rfl ?_
  obtain ⟨cl81, Ar81, qk81, Sz81, Mn81, Hv81, Gf81⟩ := id VC79
  refine OwnW.iaload (pc' := 176) (v := .int (C79.getD 3 0)) d2_175 Ar81 (inb_of Sz81 ⟨by decide, by decide⟩) (Hv81.at (inb_of Sz81 ⟨by decide, by decide⟩) (own_gd C79 3)) rfl ?_
  show GoB2 l Z n0 (Q2 Z o q0 q1 kg ks g0 g1 g2 g3 s0 s1 s2 s3 h0) h78 2 9 176 #[.val (.ref o), .val (.ref q0), .val (.ref q1), .val (.int (3 : Int32)), .val (.ref ad3), .val (.ref ad67), .val (.int (3 : Int32)), .unset, .unset] [(.int (C79.getD 3 0)), (.int (4 : Int32)), (.ref ad67)]
  refine OwnW.aload (pc' := 178) d2_176 rfl (rfl) rfl ?_
  refine OwnW.iload (pc' := 180) d2_178 rfl rfl ?_
  have F82 := (F76.other W78 (Nat.ne_of_lt lt_ad3_ad67))
  obtain ⟨cl83, Ar83, qk83, Sz83, Mn83, Hv83, Gf83⟩ := id F82
  refine OwnW.iaload (pc' := 181) (v := .int (C63.getD 3 0)) d2_180 Ar83 (inb_of Sz83 ⟨by decide, by decide⟩) (Hv83.at (inb_of Sz83 ⟨by decide, by decide⟩) (own_gd C63 3)) rfl ?_
  show GoB2 l Z n0 (Q2 Z o q0 q1 kg ks g0 g1 g2 g3 s0 s1 s2 s3 h0) h78 2 9 181 #[.val (.ref o), .val (.ref q0), .val (.ref q1), .val (.int (3 : Int32)), .val (.ref ad3), .val (.ref ad67), .val (.int (3 : Int32)), .unset, .unset] [(.int (C63.getD 3 0)), (.int (C79.getD 3 0)), (.int (4 : Int32)), (.ref ad67)]
  refine OwnW.iadd (pc' := 182) d2_181 rfl ?_
  obtain ⟨cl84, Ar84, qk84, Sz84, Mn84, Hv84, Gf84⟩ := id VC79
  skip
  refine OwnW.stI (pc' := 183) d2_182 Ar84 (inb_of Sz84 ⟨by decide, by decide⟩) ge_ad67 rfl ?_
  intro h84 W84
  have sz86 : n0 ≤ h84.size := (by rw [W84.size]; exact sz80)
  obtain ⟨C85, hC85⟩ : ∃ z : List Int32, z = (C79.set 4 ((C79.getD 3 0) + (C63.getD 3 0))) := ⟨_, rfl⟩
  have VC85 : Arv Z h84 ad67 kc67 .int (5 : Int32) (C85.map Value.int) (.int (0 : Int32)) := by rw [hC85, List.map_set]; exact Arv.set Ar84 qk84 Sz84 Mn84 Hv84 Gf84 rfl W84 4 rfl (by rw [List.length_map, lC79]; decide)
  have lC85 : C85.length = 5 := by rw [hC85, List.length_set]; exact lC79
  show GoB2 l Z n0 (Q2 Z o q0 q1 kg ks g0 g1 g2 g3 s0 s1 s2 s3 h0) h84 2 9 183 #[.val (.ref o), .val (.ref q0), .val (.ref q1), .val (.int (3 : Int32)), .val (.ref ad3), .val (.ref ad67), .val (.int (3 : Int32)), .unset, .unset] []
  refine OwnW.iinc (pc' := 186) (L' := #[.val (.ref o), .val (.ref q0), .val (.ref q1), .val (.int (3 : Int32)), .val (.ref ad3), .val (.ref ad67), .val (.int (4 : Int32)), .unset, .unset]) (d := (1 : Int32)) d2_183 rfl rfl rfl rfl ?_
  refine OwnW.goto (pc' := 159) d2_186 (by decide) (by decide) ?_
  refine OwnW.iload (pc' := 161) d2_159 rfl rfl ?_
  refine OwnW.iloadN (pc' := 162) d2_161 rfl rfl ?_
  refine OwnW.icmpY (pc' := 189) d2_162 (tlt (by decide)).2.2.1 (by decide) (by decide) ?_
  refine OwnW.aload (pc' := 191) d2_189 rfl (rfl) rfl ?_
  refine OwnW.iloadN (pc' := 192) d2_191 rfl rfl ?_
  refine OwnW.iconst (pc' := 193) (v := (1 : Int32)) d2_192 rfl rfl ?_
  refine OwnW.iadd (pc' := 194) d2_193 rfl ?_
  show GoB2 l Z n0 (Q2 Z o q0 q1 kg ks g0 g1 g2 g3 s0 s1 s2 s3 h0) h84 2 9 194 #[.val (.ref o), .val (.ref q0), .val (.ref q1), .val (.int (3 : Int32)), .val (.ref ad3), .val (.ref ad67), .val (.int (4 : Int32)), .unset, .unset] [(.int (4 : Int32)), (.ref ad67)]
  obtain ⟨cl87, Ar87, qk87, Sz87, Mn87, Hv87, Gf87⟩ := id VC85
  refine OwnW.iaload (pc' := 195) (v := .int (C85.getD 4 0)) d2_194 Ar87 (inb_of Sz87 ⟨by decide, by decide⟩) (Hv87.at (inb_of Sz87 ⟨by decide, by decide⟩) (own_gd C85 4)) rfl ?_
  show GoB2 l Z n0 (Q2 Z o q0 q1 kg ks g0 g1 g2 g3 s0 s1 s2 s3 h0) h84 2 9 195 #[.val (.ref o), .val (.ref q0), .val (.ref q1), .val (.int (3 : Int32)), .val (.ref ad3), .val (.ref ad67), .val (.int (4 : Int32)), .unset, .unset] [(.int (C85.getD 4 0))]
  obtain ⟨tt, htt⟩ : ∃ z, z = (C85.getD 4 0) := ⟨_, rfl⟩
  rw [← htt]
  show GoB2 l Z n0 (Q2 Z o q0 q1 kg ks g0 g1 g2 g3 s0 s1 s2 s3 h0) h84 2 9 195 #[.val (.ref o), .val (.ref q0), .val (.ref q1), .val (.int (3 : Int32)), .val (.ref ad3), .val (.ref ad67), .val (.int (4 : Int32)), .unset, .unset] [(.int tt)]
  have ht2 := own_tt hg0 hg1 hg2 hg3 hC15 hC18 hC33 hC48 hC63 hC68 hC73 hC79 hC85 htt
  refine OwnW.newP (a0 := a0) (pc' := 197) (cap := 4) (k' := 3) (n' := 13) d2_195 (hw _ (List.mem_of_getElem? (i := 4) rfl)) ht2.1 ht2.2.1 (by decide) rfl rfl (by decide) (by decide) rfl ?_
  intro hm km am gm Em Am
  have lt_o_am : @LT.lt Nat _ o am := Nat.lt_of_lt_of_le ((((((((((E_o.ext E3).wr W17).wr W32).wr W47).wr W62).ext E67).wr W72).wr W78).wr W84)).lt (Nat.le_of_eq gm.symm)
  have lt_q0_am : @LT.lt Nat _ q0 am := Nat.lt_of_lt_of_le (((((F65.ext E67).other W72 (Nat.ne_of_lt lt_q0_ad67)).other W78 (Nat.ne_of_lt lt_q0_ad67)).other W84 (Nat.ne_of_lt lt_q0_ad67))).lt (Nat.le_of_eq gm.symm)
  have lt_q1_am : @LT.lt Nat _ q1 am := Nat.lt_of_lt_of_le ((((((F54.other W62 (Nat.ne_of_lt lt_q1_ad3)).ext E67).other W72 (Nat.ne_of_lt lt_q1_ad67)).other W78 (Nat.ne_of_lt lt_q1_ad67)).other W84 (Nat.ne_of_lt lt_q1_ad67))).lt (Nat.le_of_eq gm.symm)
  have lt_ad3_am : @LT.lt Nat _ ad3 am := Nat.lt_of_lt_of_le ((F82.other W84 (Nat.ne_of_lt lt_ad3_ad67))).lt (Nat.le_of_eq gm.symm)
  have lt_ad67_am : @LT.lt Nat _ ad67 am := Nat.lt_of_lt_of_le (VC85).lt (Nat.le_of_eq gm.symm)
  have ge_am : n0 ≤ am := Nat.le_trans sz86 (Nat.le_of_eq gm.symm)
  have sz_am : n0 ≤ hm.size := Nat.le_trans sz86 Em.1
  obtain ⟨C0, hC0⟩ : ∃ z : List Int32, z = List.replicate tt.toNatClampNeg 0 := ⟨_, rfl⟩
  have lC0 : C0.length = tt.toNatClampNeg := by rw [hC0, List.length_replicate]
  have VC0 : Arv Z hm am km .int tt (C0.map Value.int) (.int (0 : Int32)) := by rw [hC0, List.map_replicate]; exact (Arv.new Am ht2.1).pad (pad_rep [] _ _)
  show GoB2 l Z n0 (Q2 Z o q0 q1 kg ks g0 g1 g2 g3 s0 s1 s2 s3 h0) hm 3 13 197 #[.val (.ref o), .val (.ref q0), .val (.ref q1), .val (.int (3 : Int32)), .val (.ref ad3), .val (.ref ad67), .val (.int (4 : Int32)), .unset, .unset] [(.ref am)]
  refine OwnW.astore (pc' := 199) (L' := #[.val (.ref o), .val (.ref q0), .val (.ref q1), .val (.int (3 : Int32)), .val (.ref ad3), .val (.ref ad67), .val (.ref am), .unset, .unset]) d2_197 (rfl) rfl rfl ?_
  refine OwnW.aload (pc' := 201) d2_199 rfl (rfl) rfl ?_
  refine OwnW.iloadN (pc' := 202) d2_201 rfl rfl ?_
  refine OwnW.iconst (pc' := 203) (v := (1 : Int32)) d2_202 rfl rfl ?_
  refine OwnW.iadd (pc' := 204) d2_203 rfl ?_
  show GoB2 l Z n0 (Q2 Z o q0 q1 kg ks g0 g1 g2 g3 s0 s1 s2 s3 h0) hm 3 13 204 #[.val (.ref o), .val (.ref q0), .val (.ref q1), .val (.int (3 : Int32)), .val (.ref ad3), .val (.ref ad67), .val (.ref am), .unset, .unset] [(.int (4 : Int32)), (.ref ad67)]
  have F88 := (VC85.ext Em)
  refine OwnW.callS (a0 := a0) (pc' := 207) (W := 0) (k' := 4) (n' := 17) (argsL := [(.ref ad67), (.int (4 : Int32))]) (rest := []) d2_204 (hw _ (List.mem_of_getElem? (i := 15) rfl)) (hw _ (List.mem_of_getElem? (i := 16) rfl)) (hw _ (List.mem_of_getElem? (i := 17) rfl)) (hw _ (List.mem_of_getElem? (i := 18) rfl)) (by decide) (rm4 l Z a0 hw ad67 kc67 C85 hm n0 sz_am F88) (by decide) (by decide) rfl rfl (by decide) (by decide) rfl pd_285bII295bI rfl rfl rfl (Nat.le_of_ble_eq_true rfl) rfl ?_
  rintro h89 v89 ⟨ad89_0, kc89_0, rfl, K89, gl89_0, Fc89_0⟩
  have lt_o_ad89_0 : @LT.lt Nat _ o ad89_0 := Nat.lt_of_lt_of_le (((((((((((E_o.ext E3).wr W17).wr W32).wr W47).wr W62).ext E67).wr W72).wr W78).wr W84).ext Em)).lt gl89_0
  have lt_q0_ad89_0 : @LT.lt Nat _ q0 ad89_0 := Nat.lt_of_lt_of_le ((((((F65.ext E67).other W72 (Nat.ne_of_lt lt_q0_ad67)).other W78 (Nat.ne_of_lt lt_q0_ad67)).other W84 (Nat.ne_of_lt lt_q0_ad67)).ext Em)).lt gl89_0
  have lt_q1_ad89_0 : @LT.lt Nat _ q1 ad89_0 := Nat.lt_of_lt_of_le (((((((F54.other W62 (Nat.ne_of_lt lt_q1_ad3)).ext E67).other W72 (Nat.ne_of_lt lt_q1_ad67)).other W78 (Nat.ne_of_lt lt_q1_ad67)).other W84 (Nat.ne_of_lt lt_q1_ad67)).ext Em)).lt gl89_0
  have lt_ad3_ad89_0 : @LT.lt Nat _ ad3 ad89_0 := Nat.lt_of_lt_of_le (((F82.other W84 (Nat.ne_of_lt lt_ad3_ad67)).ext Em)).lt gl89_0
  have lt_ad67_ad89_0 : @LT.lt Nat _ ad67 ad89_0 := Nat.lt_of_lt_of_le (F88).lt gl89_0
  have lt_am_ad89_0 : @LT.lt Nat _ am ad89_0 := Nat.lt_of_lt_of_le (VC0).lt gl89_0
  have ge_ad89_0 : n0 ≤ ad89_0 := Nat.le_trans sz_am gl89_0
  have sz90 : n0 ≤ h89.size := Nat.le_trans sz_am K89.1
  show GoB2 l Z n0 (Q2 Z o q0 q1 kg ks g0 g1 g2 g3 s0 s1 s2 s3 h0) h89 4 17 207 #[.val (.ref o), .val (.ref q0), .val (.ref q1), .val (.int (3 : Int32)), .val (.ref ad3), .val (.ref ad67), .val (.ref am), .unset, .unset] [(.ref ad89_0)]
  refine OwnW.astore (pc' := 209) (L' := #[.val (.ref o), .val (.ref q0), .val (.ref q1), .val (.int (3 : Int32)), .val (.ref ad3), .val (.ref ad67), .val (.ref am), .val (.ref ad89_0), .unset]) d2_207 (rfl) rfl rfl ?_
  refine OwnW.iconst (pc' := 210) (v := (0 : Int32)) d2_209 rfl rfl ?_
  refine OwnW.istore (pc' := 212) (L' := #[.val (.ref o), .val (.ref q0), .val (.ref q1), .val (.int (3 : Int32)), .val (.ref ad3), .val (.ref ad67), .val (.ref am), .val (.ref ad89_0), .val (.int (0 : Int32))]) d2_210 rfl rfl ?_
  refine OwnW.iload (pc' := 214) d2_212 rfl rfl ?_
  refine OwnW.aloadN (pc' := 215) d2_214 rfl (rfl) rfl ?_
  have F91 := ((((((F65.ext E67).other W72 (Nat.ne_of_lt lt_q0_ad67)).other W78 (Nat.ne_of_lt lt_q0_ad67)).other W84 (Nat.ne_of_lt lt_q0_ad67)).ext Em).keep K89 nin0)
  obtain ⟨cl92, Ar92, qk92, Sz92, Mn92, Hv92, Gf92⟩ := id F91
  refine OwnW.alen (pc' := 216) (x := (4 : Int32)) d2_215 Ar92 (len_of Sz92 Mn92) rfl ?_
  refine OwnW.icmpN (pc' := 219) d2_216 (tlt (by decide)).2.1 rfl ?_
  refine OwnW.aloadN (pc' := 220) d2_219 rfl (rfl) rfl ?_
  refine OwnW.iload (pc' := 222) d2_220 rfl rfl ?_
  obtain ⟨cl93, Ar93, qk93, Sz93, Mn93, Hv93, Gf93⟩ := id F91
  refine OwnW.iaload (pc' := 223) (v := (.int g0)) d2_222 Ar93 (inb_of Sz93 ⟨by decide, by decide⟩) (Hv93.at (inb_of Sz93 ⟨by decide, by decide⟩) rfl) rfl ?_
  by_cases hc223 : (0 : Int32) < g0
  ·
    refine OwnW.ifcN (pc' := 226) d2_223 ((if0 _ _).trans (tlt hc223).2.2.2) rfl ?_
    refine OwnW.aload (pc' := 228) d2_226 rfl (rfl) rfl ?_
    refine OwnW.aload (pc' := 230) d2_228 rfl (rfl) rfl ?_
    refine OwnW.aloadN (pc' := 231) d2_230 rfl (rfl) rfl ?_
    refine OwnW.iload (pc' := 233) d2_231 rfl rfl ?_
    obtain ⟨cl94, Ar94, qk94, Sz94, Mn94, Hv94, Gf94⟩ := id F91
    refine OwnW.iaload (pc' := 234) (v := (.int g0)) d2_233 Ar94 (inb_of Sz94 ⟨by decide, by decide⟩) (Hv94.at (inb_of Sz94 ⟨by decide, by decide⟩) rfl) rfl ?_
    refine OwnW.dup2 (pc' := 235) d2_234 rfl rfl rfl ?_
    obtain ⟨C95, hC95⟩ : ∃ z : List Int32, z = [(C85.getD 0 0), (C85.getD 1 0), (C85.getD 2 0), (C85.getD 3 0)] := ⟨_, rfl⟩
    have VC95 : Arv Z h89 ad89_0 kc89_0 .int (4 : Int32) (C95.map Value.int) (.int (0 : Int32)) := by rw [hC95]; exact Fc89_0
    have lC95 : C95.length = 4 := by rw [hC95]; rfl
    obtain ⟨cl96, Ar96, qk96, Sz96, Mn96, Hv96, Gf96⟩ := id VC95
    refine OwnW.iaload (pc' := 236) (v := .int (C95.getD g0.toNatClampNeg 0)) d2_235 Ar96 (inb_of Sz96 (own_bd hg0)) (Hv96.at (inb_of Sz96 (own_bd hg0)) (own_gd C95 g0.toNatClampNeg)) rfl ?_
    show GoB2 l Z n0 (Q2 Z o q0 q1 kg ks g0 g1 g2 g3 s0 s1 s2 s3 h0) h89 4 17 236 #[.val (.ref o), .val (.ref q0), .val (.ref q1), .val (.int (3 : Int32)), .val (.ref ad3), .val (.ref ad67), .val (.ref am), .val (.ref ad89_0), .val (.int (0 : Int32))] [(.int (C95.getD g0.toNatClampNeg 0)), (.int g0), (.ref ad89_0), (.ref am)]
    refine OwnW.dupX2 (pc' := 237) d2_236 rfl ?_
    refine OwnW.iconst (pc' := 238) (v := (1 : Int32)) d2_237 rfl rfl ?_
    refine OwnW.iadd (pc' := 239) d2_238 rfl ?_
    obtain ⟨cl97, Ar97, qk97, Sz97, Mn97, Hv97, Gf97⟩ := id VC95
    have bb97 := (own_bd hg0)
    refine OwnW.stI (pc' := 240) d2_239 Ar97 (inb_of Sz97 bb97) ge_ad89_0 rfl ?_
    intro h97 W97
    have sz99 : n0 ≤ h97.size := (by rw [W97.size]; exact sz90)
    obtain ⟨C98, hC98⟩ : ∃ z : List Int32, z = (C95.set g0.toNatClampNeg ((C95.getD g0.toNatClampNeg 0) + (1 : Int32))) := ⟨_, rfl⟩
    have VC98 : Arv Z h97 ad89_0 kc89_0 .int (4 : Int32) (C98.map Value.int) (.int (0 : Int32)) := by rw [hC98, List.map_set]; exact Arv.set Ar97 qk97 Sz97 Mn97 Hv97 Gf97 rfl W97 g0.toNatClampNeg rfl (own_ln (z := (4 : Int32)) lC95 bb97 (by decide))
    have lC98 : C98.length = 4 := by rw [hC98, List.length_set]; exact lC95
    show GoB2 l Z n0 (Q2 Z o q0 q1 kg ks g0 g1 g2 g3 s0 s1 s2 s3 h0) h97 4 17 240 #[.val (.ref o), .val (.ref q0), .val (.ref q1), .val (.int (3 : Int32)), .val (.ref ad3), .val (.ref ad67), .val (.ref am), .val (.ref ad89_0), .val (.int (0 : Int32))] [(.int (C95.getD g0.toNatClampNeg 0)), (.ref am)]
    refine OwnW.iload (pc' := 242) d2_240 rfl rfl ?_
    have F100 := ((VC0.keep K89 nin0).other W97 (Nat.ne_of_lt lt_am_ad89_0))
    obtain ⟨cl101, Ar101, qk101, Sz101, Mn101, Hv101, Gf101⟩ := id F100
    have bb101 := (own_mb0 hg0 hg1 hg2 hg3 hC15 hC18 hC33 hC48 hC63 hC68 hC73 hC79 hC85 hC0 hC95 hC98 htt hc223)
    refine OwnW.stI (pc' := 243) d2_242 Ar101 (inb_of Sz101 bb101) ge_am rfl ?_
    intro h101 W101
    have sz103 : n0 ≤ h101.size := (by rw [W101.size]; exact sz99)
    obtain ⟨C102, hC102⟩ : ∃ z : List Int32, z = (C0.set (C95.getD g0.toNatClampNeg 0).toNatClampNeg (0 : Int32)) := ⟨_, rfl⟩
    have VC102 : Arv Z h101 am km .int tt (C102.map Value.int) (.int (0 : Int32)) := by rw [hC102, List.map_set]; exact Arv.set Ar101 qk101 Sz101 Mn101 Hv101 Gf101 rfl W101 (C95.getD g0.toNatClampNeg 0).toNatClampNeg rfl (own_ln (z := tt) lC0 bb101 rfl)
    have lC102 : C102.length = tt.toNatClampNeg := by rw [hC102, List.length_set]; exact lC0
    show GoB2 l Z n0 (Q2 Z o q0 q1 kg ks g0 g1 g2 g3 s0 s1 s2 s3 h0) h101 4 17 243 #[.val (.ref o), .val (.ref q0), .val (.ref q1), .val (.int (3 : Int32)), .val (.ref ad3), .val (.ref ad67), .val (.ref am), .val (.ref ad89_0), .val (.int (0 : Int32))] []
    refine OwnW.iinc (pc' := 246) (L' := #[.val (.ref o), .val (.ref q0), .val (.ref q1), .val (.int (3 : Int32)), .val (.ref ad3), .val (.ref ad67), .val (.ref am), .val (.ref ad89_0), .val (.int (1 : Int32))]) (d := (1 : Int32)) d2_243 rfl rfl rfl rfl ?_
    refine OwnW.goto (pc' := 212) d2_246 (by decide) (by decide) ?_
    refine OwnW.iload (pc' := 214) d2_212 rfl rfl ?_
    refine OwnW.aloadN (pc' := 215) d2_214 rfl (rfl) rfl ?_
    have F104 := ((F91.other W97 (Nat.ne_of_lt lt_q0_ad89_0)).other W101 (Nat.ne_of_lt lt_q0_am))
    obtain ⟨cl105, Ar105, qk105, Sz105, Mn105, Hv105, Gf105⟩ := id F104
    refine OwnW.alen (pc' := 216) (x := (4 : Int32)) d2_215 Ar105 (len_of Sz105 Mn105) rfl ?_
    refine OwnW.icmpN (pc' := 219) d2_216 (tlt (by decide)).2.1 rfl ?_
    refine OwnW.aloadN (pc' := 220) d2_219 rfl (rfl) rfl ?_
    refine OwnW.iload (pc' := 222) d2_220 rfl rfl ?_
    obtain ⟨cl106, Ar106, qk106, Sz106, Mn106, Hv106, Gf106⟩ := id F104
    refine OwnW.iaload (pc' := 223) (v := (.int g1)) d2_222 Ar106 (inb_of Sz106 ⟨by decide, by decide⟩) (Hv106.at (inb_of Sz106 ⟨by decide, by decide⟩) rfl) rfl ?_
    by_cases hc223_1 : (0 : Int32) < g1
    ·
      refine OwnW.ifcN (pc' := 226) d2_223 ((if0 _ _).trans (tlt hc223_1).2.2.2) rfl ?_
      refine OwnW.aload (pc' := 228) d2_226 rfl (rfl) rfl ?_
      refine OwnW.aload (pc' := 230) d2_228 rfl (rfl) rfl ?_
      refine OwnW.aloadN (pc' := 231) d2_230 rfl (rfl) rfl ?_
      refine OwnW.iload (pc' := 233) d2_231 rfl rfl ?_
      obtain ⟨cl107, Ar107, qk107, Sz107, Mn107, Hv107, Gf107⟩ := id F104
      refine OwnW.iaload (pc' := 234) (v := (.int g1)) d2_233 Ar107 (inb_of Sz107 ⟨by decide, by decide⟩) (Hv107.at (inb_of Sz107 ⟨by decide, by decide⟩) rfl) rfl ?_
      refine OwnW.dup2 (pc' := 235) d2_234 rfl rfl rfl ?_
      have F108 := (VC98.other W101 (Ne.symm (Nat.ne_of_lt lt_am_ad89_0)))
      obtain ⟨cl109, Ar109, qk109, Sz109, Mn109, Hv109, Gf109⟩ := id F108
      refine OwnW.iaload (pc' := 236) (v := .int (C98.getD g1.toNatClampNeg 0)) d2_235 Ar109 (inb_of Sz109 (own_bd hg1)) (Hv109.at (inb_of Sz109 (own_bd hg1)) (own_gd C98 g1.toNatClampNeg)) rfl ?_
      show GoB2 l Z n0 (Q2 Z o q0 q1 kg ks g0 g1 g2 g3 s0 s1 s2 s3 h0) h101 4 17 236 #[.val (.ref o), .val (.ref q0), .val (.ref q1), .val (.int (3 : Int32)), .val (.ref ad3), .val (.ref ad67), .val (.ref am), .val (.ref ad89_0), .val (.int (1 : Int32))] [(.int (C98.getD g1.toNatClampNeg 0)), (.int g1), (.ref ad89_0), (.ref am)]
      refine OwnW.dupX2 (pc' := 237) d2_236 rfl ?_
      refine OwnW.iconst (pc' := 238) (v := (1 : Int32)) d2_237 rfl rfl ?_
      refine OwnW.iadd (pc' := 239) d2_238 rfl ?_
      obtain ⟨cl110, Ar110, qk110, Sz110, Mn110, Hv110, Gf110⟩ := id F108
      have bb110 := (own_bd hg1)
      refine OwnW.stI (pc' := 240) d2_239 Ar110 (inb_of Sz110 bb110) ge_ad89_0 rfl ?_
      intro h110 W110
      have sz112 : n0 ≤ h110.size := (by rw [W110.size]; exact sz103)
      obtain ⟨C111, hC111⟩ : ∃ z : List Int32, z = (C98.set g1.toNatClampNeg ((C98.getD g1.toNatClampNeg 0) + (1 : Int32))) := ⟨_, rfl⟩
      have VC111 : Arv Z h110 ad89_0 kc89_0 .int (4 : Int32) (C111.map Value.int) (.int (0 : Int32)) := by rw [hC111, List.map_set]; exact Arv.set Ar110 qk110 Sz110 Mn110 Hv110 Gf110 rfl W110 g1.toNatClampNeg rfl (own_ln (z := (4 : Int32)) lC98 bb110 (by decide))
      have lC111 : C111.length = 4 := by rw [hC111, List.length_set]; exact lC98
      show GoB2 l Z n0 (Q2 Z o q0 q1 kg ks g0 g1 g2 g3 s0 s1 s2 s3 h0) h110 4 17 240 #[.val (.ref o), .val (.ref q0), .val (.ref q1), .val (.int (3 : Int32)), .val (.ref ad3), .val (.ref ad67), .val (.ref am), .val (.ref ad89_0), .val (.int (1 : Int32))] [(.int (C98.getD g1.toNatClampNeg 0)), (.ref am)]
      refine OwnW.iload (pc' := 242) d2_240 rfl rfl ?_
      have F113 := (VC102.other W110 (Nat.ne_of_lt lt_am_ad89_0))
      obtain ⟨cl114, Ar114, qk114, Sz114, Mn114, Hv114, Gf114⟩ := id F113
      have bb114 := (own_mb1 hg0 hg1 hg2 hg3 hC15 hC18 hC33 hC48 hC63 hC68 hC73 hC79 hC85 hC0 hC95 hC98 hC102 hC111 htt hc223 hc223_1)
      refine OwnW.stI (pc' := 243) d2_242 Ar114 (inb_of Sz114 bb114) ge_am rfl ?_
      intro h114 W114
      have sz116 : n0 ≤ h114.size := (by rw [W114.size]; exact sz112)
      obtain ⟨C115, hC115⟩ : ∃ z : List Int32, z = (C102.set (C98.getD g1.toNatClampNeg 0).toNatClampNeg (1 : Int32)) := ⟨_, rfl⟩
      have VC115 : Arv Z h114 am km .int tt (C115.map Value.int) (.int (0 : Int32)) := by rw [hC115, List.map_set]; exact Arv.set Ar114 qk114 Sz114 Mn114 Hv114 Gf114 rfl W114 (C98.getD g1.toNatClampNeg 0).toNatClampNeg rfl (own_ln (z := tt) lC102 bb114 rfl)
      have lC115 : C115.length = tt.toNatClampNeg := by rw [hC115, List.length_set]; exact lC102
      show GoB2 l Z n0 (Q2 Z o q0 q1 kg ks g0 g1 g2 g3 s0 s1 s2 s3 h0) h114 4 17 243 #[.val (.ref o), .val (.ref q0), .val (.ref q1), .val (.int (3 : Int32)), .val (.ref ad3), .val (.ref ad67), .val (.ref am), .val (.ref ad89_0), .val (.int (1 : Int32))] []
      refine OwnW.iinc (pc' := 246) (L' := #[.val (.ref o), .val (.ref q0), .val (.ref q1), .val (.int (3 : Int32)), .val (.ref ad3), .val (.ref ad67), .val (.ref am), .val (.ref ad89_0), .val (.int (2 : Int32))]) (d := (1 : Int32)) d2_243 rfl rfl rfl rfl ?_
      refine OwnW.goto (pc' := 212) d2_246 (by decide) (by decide) ?_
      refine OwnW.iload (pc' := 214) d2_212 rfl rfl ?_
      refine OwnW.aloadN (pc' := 215) d2_214 rfl (rfl) rfl ?_
      have F117 := ((F104.other W110 (Nat.ne_of_lt lt_q0_ad89_0)).other W114 (Nat.ne_of_lt lt_q0_am))
      obtain ⟨cl118, Ar118, qk118, Sz118, Mn118, Hv118, Gf118⟩ := id F117
      refine OwnW.alen (pc' := 216) (x := (4 : Int32)) d2_215 Ar118 (len_of Sz118 Mn118) rfl ?_
      refine OwnW.icmpN (pc' := 219) d2_216 (tlt (by decide)).2.1 rfl ?_
      refine OwnW.aloadN (pc' := 220) d2_219 rfl (rfl) rfl ?_
      refine OwnW.iload (pc' := 222) d2_220 rfl rfl ?_
      obtain ⟨cl119, Ar119, qk119, Sz119, Mn119, Hv119, Gf119⟩ := id F117
      refine OwnW.iaload (pc' := 223) (v := (.int g2)) d2_222 Ar119 (inb_of Sz119 ⟨by decide, by decide⟩) (Hv119.at (inb_of Sz119 ⟨by decide, by decide⟩) rfl) rfl ?_
      by_cases hc223_2 : (0 : Int32) < g2
      ·
        refine OwnW.ifcN (pc' := 226) d2_223 ((if0 _ _).trans (tlt hc223_2).2.2.2) rfl ?_
        refine OwnW.aload (pc' := 228) d2_226 rfl (rfl) rfl ?_
        refine OwnW.aload (pc' := 230) d2_228 rfl (rfl) rfl ?_
        refine OwnW.aloadN (pc' := 231) d2_230 rfl (rfl) rfl ?_
        refine OwnW.iload (pc' := 233) d2_231 rfl rfl ?_
        obtain ⟨cl120, Ar120, qk120, Sz120, Mn120, Hv120, Gf120⟩ := id F117
        refine OwnW.iaload (pc' := 234) (v := (.int g2)) d2_233 Ar120 (inb_of Sz120 ⟨by decide, by decide⟩) (Hv120.at (inb_of Sz120 ⟨by decide, by decide⟩) rfl) rfl ?_
        refine OwnW.dup2 (pc' := 235) d2_234 rfl rfl rfl ?_
        have F121 := (VC111.other W114 (Ne.symm (Nat.ne_of_lt lt_am_ad89_0)))
        obtain ⟨cl122, Ar122, qk122, Sz122, Mn122, Hv122, Gf122⟩ := id F121
        refine OwnW.iaload (pc' := 236) (v := .int (C111.getD g2.toNatClampNeg 0)) d2_235 Ar122 (inb_of Sz122 (own_bd hg2)) (Hv122.at (inb_of Sz122 (own_bd hg2)) (own_gd C111 g2.toNatClampNeg)) rfl ?_
        show GoB2 l Z n0 (Q2 Z o q0 q1 kg ks g0 g1 g2 g3 s0 s1 s2 s3 h0) h114 4 17 236 #[.val (.ref o), .val (.ref q0), .val (.ref q1), .val (.int (3 : Int32)), .val (.ref ad3), .val (.ref ad67), .val (.ref am), .val (.ref ad89_0), .val (.int (2 : Int32))] [(.int (C111.getD g2.toNatClampNeg 0)), (.int g2), (.ref ad89_0), (.ref am)]
        refine OwnW.dupX2 (pc' := 237) d2_236 rfl ?_
        refine OwnW.iconst (pc' := 238) (v := (1 : Int32)) d2_237 rfl rfl ?_
        refine OwnW.iadd (pc' := 239) d2_238 rfl ?_
        obtain ⟨cl123, Ar123, qk123, Sz123, Mn123, Hv123, Gf123⟩ := id F121
        have bb123 := (own_bd hg2)
        refine OwnW.stI (pc' := 240) d2_239 Ar123 (inb_of Sz123 bb123) ge_ad89_0 rfl ?_
        intro h123 W123
        have sz125 : n0 ≤ h123.size := (by rw [W123.size]; exact sz116)
        obtain ⟨C124, hC124⟩ : ∃ z : List Int32, z = (C111.set g2.toNatClampNeg ((C111.getD g2.toNatClampNeg 0) + (1 : Int32))) := ⟨_, rfl⟩
        have VC124 : Arv Z h123 ad89_0 kc89_0 .int (4 : Int32) (C124.map Value.int) (.int (0 : Int32)) := by rw [hC124, List.map_set]; exact Arv.set Ar123 qk123 Sz123 Mn123 Hv123 Gf123 rfl W123 g2.toNatClampNeg rfl (own_ln (z := (4 : Int32)) lC111 bb123 (by decide))
        have lC124 : C124.length = 4 := by rw [hC124, List.length_set]; exact lC111
        show GoB2 l Z n0 (Q2 Z o q0 q1 kg ks g0 g1 g2 g3 s0 s1 s2 s3 h0) h123 4 17 240 #[.val (.ref o), .val (.ref q0), .val (.ref q1), .val (.int (3 : Int32)), .val (.ref ad3), .val (.ref ad67), .val (.ref am), .val (.ref ad89_0), .val (.int (2 : Int32))] [(.int (C111.getD g2.toNatClampNeg 0)), (.ref am)]
        refine OwnW.iload (pc' := 242) d2_240 rfl rfl ?_
        have F126 := (VC115.other W123 (Nat.ne_of_lt lt_am_ad89_0))
        obtain ⟨cl127, Ar127, qk127, Sz127, Mn127, Hv127, Gf127⟩ := id F126
        have bb127 := (own_mb2 hg0 hg1 hg2 hg3 hC15 hC18 hC33 hC48 hC63 hC68 hC73 hC79 hC85 hC0 hC95 hC98 hC102 hC111 hC115 hC124 htt hc223 hc223_1 hc223_2)
        refine OwnW.stI (pc' := 243) d2_242 Ar127 (inb_of Sz127 bb127) ge_am rfl ?_
        intro h127 W127
        have sz129 : n0 ≤ h127.size := (by rw [W127.size]; exact sz125)
        obtain ⟨C128, hC128⟩ : ∃ z : List Int32, z = (C115.set (C111.getD g2.toNatClampNeg 0).toNatClampNeg (2 : Int32)) := ⟨_, rfl⟩
        have VC128 : Arv Z h127 am km .int tt (C128.map Value.int) (.int (0 : Int32)) := by rw [hC128, List.map_set]; exact Arv.set Ar127 qk127 Sz127 Mn127 Hv127 Gf127 rfl W127 (C111.getD g2.toNatClampNeg 0).toNatClampNeg rfl (own_ln (z := tt) lC115 bb127 rfl)
        have lC128 : C128.length = tt.toNatClampNeg := by rw [hC128, List.length_set]; exact lC115
        show GoB2 l Z n0 (Q2 Z o q0 q1 kg ks g0 g1 g2 g3 s0 s1 s2 s3 h0) h127 4 17 243 #[.val (.ref o), .val (.ref q0), .val (.ref q1), .val (.int (3 : Int32)), .val (.ref ad3), .val (.ref ad67), .val (.ref am), .val (.ref ad89_0), .val (.int (2 : Int32))] []
        refine OwnW.iinc (pc' := 246) (L' := #[.val (.ref o), .val (.ref q0), .val (.ref q1), .val (.int (3 : Int32)), .val (.ref ad3), .val (.ref ad67), .val (.ref am), .val (.ref ad89_0), .val (.int (3 : Int32))]) (d := (1 : Int32)) d2_243 rfl rfl rfl rfl ?_
        refine OwnW.goto (pc' := 212) d2_246 (by decide) (by decide) ?_
        refine OwnW.iload (pc' := 214) d2_212 rfl rfl ?_
        refine OwnW.aloadN (pc' := 215) d2_214 rfl (rfl) rfl ?_
        have F130 := ((F117.other W123 (Nat.ne_of_lt lt_q0_ad89_0)).other W127 (Nat.ne_of_lt lt_q0_am))
        obtain ⟨cl131, Ar131, qk131, Sz131, Mn131, Hv131, Gf131⟩ := id F130
        refine OwnW.alen (pc' := 216) (x := (4 : Int32)) d2_215 Ar131 (len_of Sz131 Mn131) rfl ?_
        refine OwnW.icmpN (pc' := 219) d2_216 (tlt (by decide)).2.1 rfl ?_
        refine OwnW.aloadN (pc' := 220) d2_219 rfl (rfl) rfl ?_
        refine OwnW.iload (pc' := 222) d2_220 rfl rfl ?_
        obtain ⟨cl132, Ar132, qk132, Sz132, Mn132, Hv132, Gf132⟩ := id F130
        refine OwnW.iaload (pc' := 223) (v := (.int g3)) d2_222 Ar132 (inb_of Sz132 ⟨by decide, by decide⟩) (Hv132.at (inb_of Sz132 ⟨by decide, by decide⟩) rfl) rfl ?_
        by_cases hc223_3 : (0 : Int32) < g3
        ·
          refine OwnW.ifcN (pc' := 226) d2_223 ((if0 _ _).trans (tlt hc223_3).2.2.2) rfl ?_
          refine OwnW.aload (pc' := 228) d2_226 rfl (rfl) rfl ?_
          refine OwnW.aload (pc' := 230) d2_228 rfl (rfl) rfl ?_
          refine OwnW.aloadN (pc' := 231) d2_230 rfl (rfl) rfl ?_
          refine OwnW.iload (pc' := 233) d2_231 rfl rfl ?_
          obtain ⟨cl133, Ar133, qk133, Sz133, Mn133, Hv133, Gf133⟩ := id F130
          refine OwnW.iaload (pc' := 234) (v := (.int g3)) d2_233 Ar133 (inb_of Sz133 ⟨by decide, by decide⟩) (Hv133.at (inb_of Sz133 ⟨by decide, by decide⟩) rfl) rfl ?_
          refine OwnW.dup2 (pc' := 235) d2_234 rfl rfl rfl ?_
          have F134 := (VC124.other W127 (Ne.symm (Nat.ne_of_lt lt_am_ad89_0)))
          obtain ⟨cl135, Ar135, qk135, Sz135, Mn135, Hv135, Gf135⟩ := id F134
          refine OwnW.iaload (pc' := 236) (v := .int (C124.getD g3.toNatClampNeg 0)) d2_235 Ar135 (inb_of Sz135 (own_bd hg3)) (Hv135.at (inb_of Sz135 (own_bd hg3)) (own_gd C124 g3.toNatClampNeg)) rfl ?_
          show GoB2 l Z n0 (Q2 Z o q0 q1 kg ks g0 g1 g2 g3 s0 s1 s2 s3 h0) h127 4 17 236 #[.val (.ref o), .val (.ref q0), .val (.ref q1), .val (.int (3 : Int32)), .val (.ref ad3), .val (.ref ad67), .val (.ref am), .val (.ref ad89_0), .val (.int (3 : Int32))] [(.int (C124.getD g3.toNatClampNeg 0)), (.int g3), (.ref ad89_0), (.ref am)]
          refine OwnW.dupX2 (pc' := 237) d2_236 rfl ?_
          refine OwnW.iconst (pc' := 238) (v := (1 : Int32)) d2_237 rfl rfl ?_
          refine OwnW.iadd (pc' := 239) d2_238 rfl ?_
          obtain ⟨cl136, Ar136, qk136, Sz136, Mn136, Hv136, Gf136⟩ := id F134
          have bb136 := (own_bd hg3)
          refine OwnW.stI (pc' := 240) d2_239 Ar136 (inb_of Sz136 bb136) ge_ad89_0 rfl ?_
          intro h136 W136
          have sz138 : n0 ≤ h136.size := (by rw [W136.size]; exact sz129)
          obtain ⟨C137, hC137⟩ : ∃ z : List Int32, z = (C124.set g3.toNatClampNeg ((C124.getD g3.toNatClampNeg 0) + (1 : Int32))) := ⟨_, rfl⟩
          have VC137 : Arv Z h136 ad89_0 kc89_0 .int (4 : Int32) (C137.map Value.int) (.int (0 : Int32)) := by rw [hC137, List.map_set]; exact Arv.set Ar136 qk136 Sz136 Mn136 Hv136 Gf136 rfl W136 g3.toNatClampNeg rfl (own_ln (z := (4 : Int32)) lC124 bb136 (by decide))
          have lC137 : C137.length = 4 := by rw [hC137, List.length_set]; exact lC124
          show GoB2 l Z n0 (Q2 Z o q0 q1 kg ks g0 g1 g2 g3 s0 s1 s2 s3 h0) h136 4 17 240 #[.val (.ref o), .val (.ref q0), .val (.ref q1), .val (.int (3 : Int32)), .val (.ref ad3), .val (.ref ad67), .val (.ref am), .val (.ref ad89_0), .val (.int (3 : Int32))] [(.int (C124.getD g3.toNatClampNeg 0)), (.ref am)]
          refine OwnW.iload (pc' := 242) d2_240 rfl rfl ?_
          have F139 := (VC128.other W136 (Nat.ne_of_lt lt_am_ad89_0))
          obtain ⟨cl140, Ar140, qk140, Sz140, Mn140, Hv140, Gf140⟩ := id F139
          have bb140 := (own_mb3 hg0 hg1 hg2 hg3 hC15 hC18 hC33 hC48 hC63 hC68 hC73 hC79 hC85 hC0 hC95 hC98 hC102 hC111 hC115 hC124 hC128 hC137 htt hc223 hc223_1 hc223_2 hc223_3)
          refine OwnW.stI (pc' := 243) d2_242 Ar140 (inb_of Sz140 bb140) ge_am rfl ?_
          intro h140 W140
          have sz142 : n0 ≤ h140.size := (by rw [W140.size]; exact sz138)
          obtain ⟨C141, hC141⟩ : ∃ z : List Int32, z = (C128.set (C124.getD g3.toNatClampNeg 0).toNatClampNeg (3 : Int32)) := ⟨_, rfl⟩
          have VC141 : Arv Z h140 am km .int tt (C141.map Value.int) (.int (0 : Int32)) := by rw [hC141, List.map_set]; exact Arv.set Ar140 qk140 Sz140 Mn140 Hv140 Gf140 rfl W140 (C124.getD g3.toNatClampNeg 0).toNatClampNeg rfl (own_ln (z := tt) lC128 bb140 rfl)
          have lC141 : C141.length = tt.toNatClampNeg := by rw [hC141, List.length_set]; exact lC128
          show GoB2 l Z n0 (Q2 Z o q0 q1 kg ks g0 g1 g2 g3 s0 s1 s2 s3 h0) h140 4 17 243 #[.val (.ref o), .val (.ref q0), .val (.ref q1), .val (.int (3 : Int32)), .val (.ref ad3), .val (.ref ad67), .val (.ref am), .val (.ref ad89_0), .val (.int (3 : Int32))] []
          refine OwnW.iinc (pc' := 246) (L' := #[.val (.ref o), .val (.ref q0), .val (.ref q1), .val (.int (3 : Int32)), .val (.ref ad3), .val (.ref ad67), .val (.ref am), .val (.ref ad89_0), .val (.int (4 : Int32))]) (d := (1 : Int32)) d2_243 rfl rfl rfl rfl ?_
          refine OwnW.goto (pc' := 212) d2_246 (by decide) (by decide) ?_
          refine OwnW.iload (pc' := 214) d2_212 rfl rfl ?_
          refine OwnW.aloadN (pc' := 215) d2_214 rfl (rfl) rfl ?_
          have F143 := ((F130.other W136 (Nat.ne_of_lt lt_q0_ad89_0)).other W140 (Nat.ne_of_lt lt_q0_am))
          obtain ⟨cl144, Ar144, qk144, Sz144, Mn144, Hv144, Gf144⟩ := id F143
          refine OwnW.alen (pc' := 216) (x := (4 : Int32)) d2_215 Ar144 (len_of Sz144 Mn144) rfl ?_
          refine OwnW.icmpY (pc' := 249) d2_216 (flt (by decide)).2.1 (by decide) (by decide) ?_
          have he := own_end0 hg0 hg1 hg2 hg3 hC15 hC18 hC33 hC48 hC63 hC68 hC73 hC79 hC85 hC0 hC95 hC98 hC102 hC111 hC115 hC124 hC128 hC137 hC141 htt hc223 hc223_1 hc223_2 hc223_3
          have F145 := (((((((((F88.keep K89 nin0).other W97 (Nat.ne_of_lt lt_ad67_ad89_0)).other W101 (Nat.ne_of_lt lt_ad67_am)).other W110 (Nat.ne_of_lt lt_ad67_ad89_0)).other W114 (Nat.ne_of_lt lt_ad67_am)).other W123 (Nat.ne_of_lt lt_ad67_ad89_0)).other W127 (Nat.ne_of_lt lt_ad67_am)).other W136 (Nat.ne_of_lt lt_ad67_ad89_0)).other W140 (Nat.ne_of_lt lt_ad67_am))
          have VE1 : Arv Z h140 ad67 kc67 .int (5 : Int32) ((own_SL g0 g1 g2 g3).map Value.int) (.int (0 : Int32)) := by rw [← he.1]; exact F145
          have VE2 : Arv Z h140 am km .int (own_T g0 g1 g2 g3) ((own_ML g0 g1 g2 g3).map Value.int) (.int (0 : Int32)) := by rw [← he.2.1, ← ht2.2.2]; exact VC141
          refine OwnW.aloadN (pc' := 250) d2_249 rfl (rfl) rfl ?_
          refine OwnW.aloadN (pc' := 251) d2_250 rfl (rfl) rfl ?_
          have F147 := (((((((((((((((((((F_groups.ext E3).other W17 (Or.inl (Nat.ne_of_lt lt_o_ad3))).other W32 (Or.inl (Nat.ne_of_lt lt_o_ad3))).other W47 (Or.inl (Nat.ne_of_lt lt_o_ad3))).other W62 (Or.inl (Nat.ne_of_lt lt_o_ad3))).ext E67).other W72 (Or.inl (Nat.ne_of_lt lt_o_ad67))).other W78 (Or.inl (Nat.ne_of_lt lt_o_ad67))).other W84 (Or.inl (Nat.ne_of_lt lt_o_ad67))).ext Em).keep K89 nin0).other W97 (Or.inl (Nat.ne_of_lt lt_o_ad89_0))).other W101 (Or.inl (Nat.ne_of_lt lt_o_am))).other W110 (Or.inl (Nat.ne_of_lt lt_o_ad89_0))).other W114 (Or.inl (Nat.ne_of_lt lt_o_am))).other W123 (Or.inl (Nat.ne_of_lt lt_o_ad89_0))).other W127 (Or.inl (Nat.ne_of_lt lt_o_am))).other W136 (Or.inl (Nat.ne_of_lt lt_o_ad89_0))).other W140 (Or.inl (Nat.ne_of_lt lt_o_am)))
          have F148 := (((((((((((((((((((E_o.ext E3).wr W17).wr W32).wr W47).wr W62).ext E67).wr W72).wr W78).wr W84).ext Em).keep K89).wr W97).wr W101).wr W110).wr W114).wr W123).wr W127).wr W136).wr W140)
          refine OwnW.putF (a0 := a0) (pc' := 254) d2_251 (host := "") (Or.inl (hw _ (List.mem_of_getElem? (i := 27) rfl))) Via.refl F147 F148 (Or.inr ⟨(hw _ (List.mem_of_getElem? (i := 28) rfl)), rfl, rfl⟩) (hw _ (List.mem_of_getElem? (i := 7) rfl)) (ty := (.array .int)) (by decide) rfl rfl g_o rfl ?_
          intro h146 W146
          have sz149 : n0 ≤ h146.size := (by rw [W146.size]; exact sz142)
          have F150 := F147.same W146
          refine OwnW.aloadN (pc' := 255) d2_254 rfl (rfl) rfl ?_
          refine OwnW.aloadN (pc' := 256) d2_255 rfl (rfl) rfl ?_
          have F152 := ((((((((((((((((((((F_shares.ext E3).other W17 (Or.inl (Nat.ne_of_lt lt_o_ad3))).other W32 (Or.inl (Nat.ne_of_lt lt_o_ad3))).other W47 (Or.inl (Nat.ne_of_lt lt_o_ad3))).other W62 (Or.inl (Nat.ne_of_lt lt_o_ad3))).ext E67).other W72 (Or.inl (Nat.ne_of_lt lt_o_ad67))).other W78 (Or.inl (Nat.ne_of_lt lt_o_ad67))).other W84 (Or.inl (Nat.ne_of_lt lt_o_ad67))).ext Em).keep K89 nin0).other W97 (Or.inl (Nat.ne_of_lt lt_o_ad89_0))).other W101 (Or.inl (Nat.ne_of_lt lt_o_am))).other W110 (Or.inl (Nat.ne_of_lt lt_o_ad89_0))).other W114 (Or.inl (Nat.ne_of_lt lt_o_am))).other W123 (Or.inl (Nat.ne_of_lt lt_o_ad89_0))).other W127 (Or.inl (Nat.ne_of_lt lt_o_am))).other W136 (Or.inl (Nat.ne_of_lt lt_o_ad89_0))).other W140 (Or.inl (Nat.ne_of_lt lt_o_am))).other W146 (Or.inr (slot_ne (a0 := a0) (C := "com/example/sieve_for_links/sieveforlinks/VirtualLinks") (Or.inr (hw _ (List.mem_of_getElem? (i := 30) rfl))) (Or.inr (hw _ (List.mem_of_getElem? (i := 28) rfl))) (by decide) (t := (.array .double)) (t' := (.array .int)) (by decide) (by decide))))
          have F153 := (F148.wr W146)
          refine OwnW.putF (a0 := a0) (pc' := 259) d2_256 (host := "") (Or.inl (hw _ (List.mem_of_getElem? (i := 29) rfl))) Via.refl F152 F153 (Or.inr ⟨(hw _ (List.mem_of_getElem? (i := 30) rfl)), rfl, rfl⟩) (hw _ (List.mem_of_getElem? (i := 7) rfl)) (ty := (.array .double)) (by decide) rfl rfl g_o rfl ?_
          intro h151 W151
          have sz154 : n0 ≤ h151.size := (by rw [W151.size]; exact sz149)
          have F155 := F152.same W151
          refine OwnW.aloadN (pc' := 260) d2_259 rfl (rfl) rfl ?_
          refine OwnW.aload (pc' := 262) d2_260 rfl (rfl) rfl ?_
          have F157 := (((((((((((((((((((((F_members.ext E3).other W17 (Or.inl (Nat.ne_of_lt lt_o_ad3))).other W32 (Or.inl (Nat.ne_of_lt lt_o_ad3))).other W47 (Or.inl (Nat.ne_of_lt lt_o_ad3))).other W62 (Or.inl (Nat.ne_of_lt lt_o_ad3))).ext E67).other W72 (Or.inl (Nat.ne_of_lt lt_o_ad67))).other W78 (Or.inl (Nat.ne_of_lt lt_o_ad67))).other W84 (Or.inl (Nat.ne_of_lt lt_o_ad67))).ext Em).keep K89 nin0).other W97 (Or.inl (Nat.ne_of_lt lt_o_ad89_0))).other W101 (Or.inl (Nat.ne_of_lt lt_o_am))).other W110 (Or.inl (Nat.ne_of_lt lt_o_ad89_0))).other W114 (Or.inl (Nat.ne_of_lt lt_o_am))).other W123 (Or.inl (Nat.ne_of_lt lt_o_ad89_0))).other W127 (Or.inl (Nat.ne_of_lt lt_o_am))).other W136 (Or.inl (Nat.ne_of_lt lt_o_ad89_0))).other W140 (Or.inl (Nat.ne_of_lt lt_o_am))).other W146 (Or.inr (slot_ne (a0 := a0) (C := "com/example/sieve_for_links/sieveforlinks/VirtualLinks") (Or.inr (hw _ (List.mem_of_getElem? (i := 32) rfl))) (Or.inr (hw _ (List.mem_of_getElem? (i := 28) rfl))) (by decide) (t := (.array .int)) (t' := (.array .int)) (by decide) (by decide)))).other W151 (Or.inr (slot_ne (a0 := a0) (C := "com/example/sieve_for_links/sieveforlinks/VirtualLinks") (Or.inr (hw _ (List.mem_of_getElem? (i := 32) rfl))) (Or.inr (hw _ (List.mem_of_getElem? (i := 30) rfl))) (by decide) (t := (.array .int)) (t' := (.array .double)) (by decide) (by decide))))
          have F158 := (F153.wr W151)
          refine OwnW.putF (a0 := a0) (pc' := 265) d2_262 (host := "") (Or.inl (hw _ (List.mem_of_getElem? (i := 31) rfl))) Via.refl F157 F158 (Or.inr ⟨(hw _ (List.mem_of_getElem? (i := 32) rfl)), rfl, rfl⟩) (hw _ (List.mem_of_getElem? (i := 7) rfl)) (ty := (.array .int)) (by decide) rfl rfl g_o rfl ?_
          intro h156 W156
          have sz159 : n0 ≤ h156.size := (by rw [W156.size]; exact sz154)
          have F160 := F157.same W156
          refine OwnW.aloadN (pc' := 266) d2_265 rfl (rfl) rfl ?_
          refine OwnW.aload (pc' := 268) d2_266 rfl (rfl) rfl ?_
          have F162 := ((((((((((((((((((((((F_memberStarts.ext E3).other W17 (Or.inl (Nat.ne_of_lt lt_o_ad3))).other W32 (Or.inl (Nat.ne_of_lt lt_o_ad3))).other W47 (Or.inl (Nat.ne_of_lt lt_o_ad3))).other W62 (Or.inl (Nat.ne_of_lt lt_o_ad3))).ext E67).other W72 (Or.inl (Nat.ne_of_lt lt_o_ad67))).other W78 (Or.inl (Nat.ne_of_lt lt_o_ad67))).other W84 (Or.inl (Nat.ne_of_lt lt_o_ad67))).ext Em).keep K89 nin0).other W97 (Or.inl (Nat.ne_of_lt lt_o_ad89_0))).other W101 (Or.inl (Nat.ne_of_lt lt_o_am))).other W110 (Or.inl (Nat.ne_of_lt lt_o_ad89_0))).other W114 (Or.inl (Nat.ne_of_lt lt_o_am))).other W123 (Or.inl (Nat.ne_of_lt lt_o_ad89_0))).other W127 (Or.inl (Nat.ne_of_lt lt_o_am))).other W136 (Or.inl (Nat.ne_of_lt lt_o_ad89_0))).other W140 (Or.inl (Nat.ne_of_lt lt_o_am))).other W146 (Or.inr (slot_ne (a0 := a0) (C := "com/example/sieve_for_links/sieveforlinks/VirtualLinks") (Or.inr (hw _ (List.mem_of_getElem? (i := 34) rfl))) (Or.inr (hw _ (List.mem_of_getElem? (i := 28) rfl))) (by decide) (t := (.array .int)) (t' := (.array .int)) (by decide) (by decide)))).other W151 (Or.inr (slot_ne (a0 := a0) (C := "com/example/sieve_for_links/sieveforlinks/VirtualLinks") (Or.inr (hw _ (List.mem_of_getElem? (i := 34) rfl))) (Or.inr (hw _ (List.mem_of_getElem? (i := 30) rfl))) (by decide) (t := (.array .int)) (t' := (.array .double)) (by decide) (by decide)))).other W156 (Or.inr (slot_ne (a0 := a0) (C := "com/example/sieve_for_links/sieveforlinks/VirtualLinks") (Or.inr (hw _ (List.mem_of_getElem? (i := 34) rfl))) (Or.inr (hw _ (List.mem_of_getElem? (i := 32) rfl))) (by decide) (t := (.array .int)) (t' := (.array .int)) (by decide) (by decide))))
          have F163 := (F158.wr W156)
          refine OwnW.putF (a0 := a0) (pc' := 271) d2_268 (host := "") (Or.inl (hw _ (List.mem_of_getElem? (i := 33) rfl))) Via.refl F162 F163 (Or.inr ⟨(hw _ (List.mem_of_getElem? (i := 34) rfl)), rfl, rfl⟩) (hw _ (List.mem_of_getElem? (i := 7) rfl)) (ty := (.array .int)) (by decide) rfl rfl g_o rfl ?_
          intro h161 W161
          have sz164 : n0 ≤ h161.size := (by rw [W161.size]; exact sz159)
          have F165 := F162.same W161
          exact OwnW.ret0 d2_271 rfl (by decide) (by decide) (⟨ad67, am, kc67, km, rfl, ((((((((((((((((((((((((Keep.refl h0 [o]).ext E3).wr W17 (Or.inr (Nat.le_trans (Nat.le_refl _) (Nat.le_of_eq gq3.symm)))).wr W32 (Or.inr (Nat.le_trans (Nat.le_refl _) (Nat.le_of_eq gq3.symm)))).wr W47 (Or.inr (Nat.le_trans (Nat.le_refl _) (Nat.le_of_eq gq3.symm)))).wr W62 (Or.inr (Nat.le_trans (Nat.le_refl _) (Nat.le_of_eq gq3.symm)))).ext E67).wr W72 (Or.inr (Nat.le_trans (Nat.le_trans (Nat.le_trans (Nat.le_trans (Nat.le_trans (Nat.le_trans (Nat.le_refl _) E3.1) (Nat.le_of_eq W17.size.symm)) (Nat.le_of_eq W32.size.symm)) (Nat.le_of_eq W47.size.symm)) (Nat.le_of_eq W62.size.symm)) (Nat.le_of_eq gq67.symm)))).wr W78 (Or.inr (Nat.le_trans (Nat.le_trans (Nat.le_trans (Nat.le_trans (Nat.le_trans (Nat.le_trans (Nat.le_refl _) E3.1) (Nat.le_of_eq W17.size.symm)) (Nat.le_of_eq W32.size.symm)) (Nat.le_of_eq W47.size.symm)) (Nat.le_of_eq W62.size.symm)) (Nat.le_of_eq gq67.symm)))).wr W84 (Or.inr (Nat.le_trans (Nat.le_trans (Nat.le_trans (Nat.le_trans (Nat.le_trans (Nat.le_trans (Nat.le_refl _) E3.1) (Nat.le_of_eq W17.size.symm)) (Nat.le_of_eq W32.size.symm)) (Nat.le_of_eq W47.size.symm)) (Nat.le_of_eq W62.size.symm)) (Nat.le_of_eq gq67.symm)))).ext Em).trans K89 all0).wr W97 (Or.inr (Nat.le_trans (Nat.le_trans (Nat.le_trans (Nat.le_trans (Nat.le_trans (Nat.le_trans (Nat.le_trans (Nat.le_trans (Nat.le_trans (Nat.le_trans (Nat.le_trans (Nat.le_refl _) E3.1) (Nat.le_of_eq W17.size.symm)) (Nat.le_of_eq W32.size.symm)) (Nat.le_of_eq W47.size.symm)) (Nat.le_of_eq W62.size.symm)) E67.1) (Nat.le_of_eq W72.size.symm)) (Nat.le_of_eq W78.size.symm)) (Nat.le_of_eq W84.size.symm)) Em.1) gl89_0))).wr W101 (Or.inr (Nat.le_trans (Nat.le_trans (Nat.le_trans (Nat.le_trans (Nat.le_trans (Nat.le_trans (Nat.le_trans (Nat.le_trans (Nat.le_trans (Nat.le_trans (Nat.le_refl _) E3.1) (Nat.le_of_eq W17.size.symm)) (Nat.le_of_eq W32.size.symm)) (Nat.le_of_eq W47.size.symm)) (Nat.le_of_eq W62.size.symm)) E67.1) (Nat.le_of_eq W72.size.symm)) (Nat.le_of_eq W78.size.symm)) (Nat.le_of_eq W84.size.symm)) (Nat.le_of_eq gm.symm)))).wr W110 (Or.inr (Nat.le_trans (Nat.le_trans (Nat.le_trans (Nat.le_trans (Nat.le_trans (Nat.le_trans (Nat.le_trans (Nat.le_trans (Nat.le_trans (Nat.le_trans (Nat.le_trans (Nat.le_refl _) E3.1) (Nat.le_of_eq W17.size.symm)) (Nat.le_of_eq W32.size.symm)) (Nat.le_of_eq W47.size.symm)) (Nat.le_of_eq W62.size.symm)) E67.1) (Nat.le_of_eq W72.size.symm)) (Nat.le_of_eq W78.size.symm)) (Nat.le_of_eq W84.size.symm)) Em.1) gl89_0))).wr W114 (Or.inr (Nat.le_trans (Nat.le_trans (Nat.le_trans (Nat.le_trans (Nat.le_trans (Nat.le_trans (Nat.le_trans (Nat.le_trans (Nat.le_trans (Nat.le_trans (Nat.le_refl _) E3.1) (Nat.le_of_eq W17.size.symm)) (Nat.le_of_eq W32.size.symm)) (Nat.le_of_eq W47.size.symm)) (Nat.le_of_eq W62.size.symm)) E67.1) (Nat.le_of_eq W72.size.symm)) (Nat.le_of_eq W78.size.symm)) (Nat.le_of_eq W84.size.symm)) (Nat.le_of_eq gm.symm)))).wr W123 (Or.inr (Nat.le_trans (Nat.le_trans (Nat.le_trans (Nat.le_trans (Nat.le_trans (Nat.le_trans (Nat.le_trans (Nat.le_trans (Nat.le_trans (Nat.le_trans (Nat.le_trans (Nat.le_refl _) E3.1) (Nat.le_of_eq W17.size.symm)) (Nat.le_of_eq W32.size.symm)) (Nat.le_of_eq W47.size.symm)) (Nat.le_of_eq W62.size.symm)) E67.1) (Nat.le_of_eq W72.size.symm)) (Nat.le_of_eq W78.size.symm)) (Nat.le_of_eq W84.size.symm)) Em.1) gl89_0))).wr W127 (Or.inr (Nat.le_trans (Nat.le_trans (Nat.le_trans (Nat.le_trans (Nat.le_trans (Nat.le_trans (Nat.le_trans (Nat.le_trans (Nat.le_trans (Nat.le_trans (Nat.le_refl _) E3.1) (Nat.le_of_eq W17.size.symm)) (Nat.le_of_eq W32.size.symm)) (Nat.le_of_eq W47.size.symm)) (Nat.le_of_eq W62.size.symm)) E67.1) (Nat.le_of_eq W72.size.symm)) (Nat.le_of_eq W78.size.symm)) (Nat.le_of_eq W84.size.symm)) (Nat.le_of_eq gm.symm)))).wr W136 (Or.inr (Nat.le_trans (Nat.le_trans (Nat.le_trans (Nat.le_trans (Nat.le_trans (Nat.le_trans (Nat.le_trans (Nat.le_trans (Nat.le_trans (Nat.le_trans (Nat.le_trans (Nat.le_refl _) E3.1) (Nat.le_of_eq W17.size.symm)) (Nat.le_of_eq W32.size.symm)) (Nat.le_of_eq W47.size.symm)) (Nat.le_of_eq W62.size.symm)) E67.1) (Nat.le_of_eq W72.size.symm)) (Nat.le_of_eq W78.size.symm)) (Nat.le_of_eq W84.size.symm)) Em.1) gl89_0))).wr W140 (Or.inr (Nat.le_trans (Nat.le_trans (Nat.le_trans (Nat.le_trans (Nat.le_trans (Nat.le_trans (Nat.le_trans (Nat.le_trans (Nat.le_trans (Nat.le_trans (Nat.le_refl _) E3.1) (Nat.le_of_eq W17.size.symm)) (Nat.le_of_eq W32.size.symm)) (Nat.le_of_eq W47.size.symm)) (Nat.le_of_eq W62.size.symm)) E67.1) (Nat.le_of_eq W72.size.symm)) (Nat.le_of_eq W78.size.symm)) (Nat.le_of_eq W84.size.symm)) (Nat.le_of_eq gm.symm)))).wr W146 (Or.inl (List.mem_of_getElem? (i := 0) rfl))).wr W151 (Or.inl (List.mem_of_getElem? (i := 0) rfl))).wr W156 (Or.inl (List.mem_of_getElem? (i := 0) rfl))).wr W161 (Or.inl (List.mem_of_getElem? (i := 0) rfl))), (Nat.le_trans (Nat.le_trans (Nat.le_trans (Nat.le_trans (Nat.le_trans (Nat.le_trans (Nat.le_refl _) E3.1) (Nat.le_of_eq W17.size.symm)) (Nat.le_of_eq W32.size.symm)) (Nat.le_of_eq W47.size.symm)) (Nat.le_of_eq W62.size.symm)) (Nat.le_of_eq gq67.symm)), (Nat.le_trans (Nat.le_trans (Nat.le_trans (Nat.le_trans (Nat.le_trans (Nat.le_trans (Nat.le_trans (Nat.le_trans (Nat.le_trans (Nat.le_trans (Nat.le_refl _) E3.1) (Nat.le_of_eq W17.size.symm)) (Nat.le_of_eq W32.size.symm)) (Nat.le_of_eq W47.size.symm)) (Nat.le_of_eq W62.size.symm)) E67.1) (Nat.le_of_eq W72.size.symm)) (Nat.le_of_eq W78.size.symm)) (Nat.le_of_eq W84.size.symm)) (Nat.le_of_eq gm.symm)), (Nat.ne_of_lt lt_ad67_am), (F163.wr W161), ((F155.other W156 (Or.inr (slot_ne (a0 := a0) (C := "com/example/sieve_for_links/sieveforlinks/VirtualLinks") (Or.inr (hw _ (List.mem_of_getElem? (i := 30) rfl))) (Or.inr (hw _ (List.mem_of_getElem? (i := 32) rfl))) (by decide) (t := (.array .double)) (t' := (.array .int)) (by decide) (by decide)))).other W161 (Or.inr (slot_ne (a0 := a0) (C := "com/example/sieve_for_links/sieveforlinks/VirtualLinks") (Or.inr (hw _ (List.mem_of_getElem? (i := 30) rfl))) (Or.inr (hw _ (List.mem_of_getElem? (i := 34) rfl))) (by decide) (t := (.array .double)) (t' := (.array .int)) (by decide) (by decide)))), (F160.other W161 (Or.inr (slot_ne (a0 := a0) (C := "com/example/sieve_for_links/sieveforlinks/VirtualLinks") (Or.inr (hw _ (List.mem_of_getElem? (i := 32) rfl))) (Or.inr (hw _ (List.mem_of_getElem? (i := 34) rfl))) (by decide) (t := (.array .int)) (t' := (.array .int)) (by decide) (by decide)))), F165, ((((VE1.other W146 (Ne.symm (Nat.ne_of_lt lt_o_ad67))).other W151 (Ne.symm (Nat.ne_of_lt lt_o_ad67))).other W156 (Ne.symm (Nat.ne_of_lt lt_o_ad67))).other W161 (Ne.symm (Nat.ne_of_lt lt_o_ad67))), ((((VE2.other W146 (Ne.symm (Nat.ne_of_lt lt_o_am))).other W151 (Ne.symm (Nat.ne_of_lt lt_o_am))).other W156 (Ne.symm (Nat.ne_of_lt lt_o_am))).other W161 (Ne.symm (Nat.ne_of_lt lt_o_am)))⟩)
        ·
          refine OwnW.ifcY (pc' := 243) d2_223 ((if0 _ _).trans (flt hc223_3).2.2.2) (by decide) (by decide) ?_
          refine OwnW.iinc (pc' := 246) (L' := #[.val (.ref o), .val (.ref q0), .val (.ref q1), .val (.int (3 : Int32)), .val (.ref ad3), .val (.ref ad67), .val (.ref am), .val (.ref ad89_0), .val (.int (4 : Int32))]) (d := (1 : Int32)) d2_243 rfl rfl rfl rfl ?_
          refine OwnW.goto (pc' := 212) d2_246 (by decide) (by decide) ?_
          refine OwnW.iload (pc' := 214) d2_212 rfl rfl ?_
          refine OwnW.aloadN (pc' := 215) d2_214 rfl (rfl) rfl ?_
          obtain ⟨cl166, Ar166, qk166, Sz166, Mn166, Hv166, Gf166⟩ := id F130
          refine OwnW.alen (pc' := 216) (x := (4 : Int32)) d2_215 Ar166 (len_of Sz166 Mn166) rfl ?_
          refine OwnW.icmpY (pc' := 249) d2_216 (flt (by decide)).2.1 (by decide) (by decide) ?_
          have he := own_end1 hg0 hg1 hg2 hg3 hC15 hC18 hC33 hC48 hC63 hC68 hC73 hC79 hC85 hC0 hC95 hC98 hC102 hC111 hC115 hC124 hC128 htt hc223 hc223_1 hc223_2 hc223_3
          have F167 := (((((((F88.keep K89 nin0).other W97 (Nat.ne_of_lt lt_ad67_ad89_0)).other W101 (Nat.ne_of_lt lt_ad67_am)).other W110 (Nat.ne_of_lt lt_ad67_ad89_0)).other W114 (Nat.ne_of_lt lt_ad67_am)).other W123 (Nat.ne_of_lt lt_ad67_ad89_0)).other W127 (Nat.ne_of_lt lt_ad67_am))
          have VE1 : Arv Z h127 ad67 kc67 .int (5 : Int32) ((own_SL g0 g1 g2 g3).map Value.int) (.int (0 : Int32)) := by rw [← he.1]; exact F167
          have VE2 : Arv Z h127 am km .int (own_T g0 g1 g2 g3) ((own_ML g0 g1 g2 g3).map Value.int) (.int (0 : Int32)) := by rw [← he.2.1, ← ht2.2.2]; exact VC128
          refine OwnW.aloadN (pc' := 250) d2_249 rfl (rfl) rfl ?_
          refine OwnW.aloadN (pc' := 251) d2_250 rfl (rfl) rfl ?_
          have F169 := (((((((((((((((((F_groups.ext E3).other W17 (Or.inl (Nat.ne_of_lt lt_o_ad3))).other W32 (Or.inl (Nat.ne_of_lt lt_o_ad3))).other W47 (Or.inl (Nat.ne_of_lt lt_o_ad3))).other W62 (Or.inl (Nat.ne_of_lt lt_o_ad3))).ext E67).other W72 (Or.inl (Nat.ne_of_lt lt_o_ad67))).other W78 (Or.inl (Nat.ne_of_lt lt_o_ad67))).other W84 (Or.inl (Nat.ne_of_lt lt_o_ad67))).ext Em).keep K89 nin0).other W97 (Or.inl (Nat.ne_of_lt lt_o_ad89_0))).other W101 (Or.inl (Nat.ne_of_lt lt_o_am))).other W110 (Or.inl (Nat.ne_of_lt lt_o_ad89_0))).other W114 (Or.inl (Nat.ne_of_lt lt_o_am))).other W123 (Or.inl (Nat.ne_of_lt lt_o_ad89_0))).other W127 (Or.inl (Nat.ne_of_lt lt_o_am)))
          have F170 := (((((((((((((((((E_o.ext E3).wr W17).wr W32).wr W47).wr W62).ext E67).wr W72).wr W78).wr W84).ext Em).keep K89).wr W97).wr W101).wr W110).wr W114).wr W123).wr W127)
          refine OwnW.putF (a0 := a0) (pc' := 254) d2_251 (host := "") (Or.inl (hw _ (List.mem_of_getElem? (i := 27) rfl))) Via.refl F169 F170 (Or.inr ⟨(hw _ (List.mem_of_getElem? (i := 28) rfl)), rfl, rfl⟩) (hw _ (List.mem_of_getElem? (i := 7) rfl)) (ty := (.array .int)) (by decide) rfl rfl g_o rfl ?_
          intro h168 W168
          have sz171 : n0 ≤ h168.size := (by rw [W168.size]; exact sz129)
          have F172 := F169.same W168
          refine OwnW.aloadN (pc' := 255) d2_254 rfl (rfl) rfl ?_
          refine OwnW.aloadN (pc' := 256) d2_255 rfl (rfl) rfl ?_
          have F174 := ((((((((((((((((((F_shares.ext E3).other W17 (Or.inl (Nat.ne_of_lt lt_o_ad3))).other W32 (Or.inl (Nat.ne_of_lt lt_o_ad3))).other W47 (Or.inl (Nat.ne_of_lt lt_o_ad3))).other W62 (Or.inl (Nat.ne_of_lt lt_o_ad3))).ext E67).other W72 (Or.inl (Nat.ne_of_lt lt_o_ad67))).other W78 (Or.inl (Nat.ne_of_lt lt_o_ad67))).other W84 (Or.inl (Nat.ne_of_lt lt_o_ad67))).ext Em).keep K89 nin0).other W97 (Or.inl (Nat.ne_of_lt lt_o_ad89_0))).other W101 (Or.inl (Nat.ne_of_lt lt_o_am))).other W110 (Or.inl (Nat.ne_of_lt lt_o_ad89_0))).other W114 (Or.inl (Nat.ne_of_lt lt_o_am))).other W123 (Or.inl (Nat.ne_of_lt lt_o_ad89_0))).other W127 (Or.inl (Nat.ne_of_lt lt_o_am))).other W168 (Or.inr (slot_ne (a0 := a0) (C := "com/example/sieve_for_links/sieveforlinks/VirtualLinks") (Or.inr (hw _ (List.mem_of_getElem? (i := 30) rfl))) (Or.inr (hw _ (List.mem_of_getElem? (i := 28) rfl))) (by decide) (t := (.array .double)) (t' := (.array .int)) (by decide) (by decide))))
          have F175 := (F170.wr W168)
          refine OwnW.putF (a0 := a0) (pc' := 259) d2_256 (host := "") (Or.inl (hw _ (List.mem_of_getElem? (i := 29) rfl))) Via.refl F174 F175 (Or.inr ⟨(hw _ (List.mem_of_getElem? (i := 30) rfl)), rfl, rfl⟩) (hw _ (List.mem_of_getElem? (i := 7) rfl)) (ty := (.array .double)) (by decide) rfl rfl g_o rfl ?_
          intro h173 W173
          have sz176 : n0 ≤ h173.size := (by rw [W173.size]; exact sz171)
          have F177 := F174.same W173
          refine OwnW.aloadN (pc' := 260) d2_259 rfl (rfl) rfl ?_
          refine OwnW.aload (pc' := 262) d2_260 rfl (rfl) rfl ?_
          have F179 := (((((((((((((((((((F_members.ext E3).other W17 (Or.inl (Nat.ne_of_lt lt_o_ad3))).other W32 (Or.inl (Nat.ne_of_lt lt_o_ad3))).other W47 (Or.inl (Nat.ne_of_lt lt_o_ad3))).other W62 (Or.inl (Nat.ne_of_lt lt_o_ad3))).ext E67).other W72 (Or.inl (Nat.ne_of_lt lt_o_ad67))).other W78 (Or.inl (Nat.ne_of_lt lt_o_ad67))).other W84 (Or.inl (Nat.ne_of_lt lt_o_ad67))).ext Em).keep K89 nin0).other W97 (Or.inl (Nat.ne_of_lt lt_o_ad89_0))).other W101 (Or.inl (Nat.ne_of_lt lt_o_am))).other W110 (Or.inl (Nat.ne_of_lt lt_o_ad89_0))).other W114 (Or.inl (Nat.ne_of_lt lt_o_am))).other W123 (Or.inl (Nat.ne_of_lt lt_o_ad89_0))).other W127 (Or.inl (Nat.ne_of_lt lt_o_am))).other W168 (Or.inr (slot_ne (a0 := a0) (C := "com/example/sieve_for_links/sieveforlinks/VirtualLinks") (Or.inr (hw _ (List.mem_of_getElem? (i := 32) rfl))) (Or.inr (hw _ (List.mem_of_getElem? (i := 28) rfl))) (by decide) (t := (.array .int)) (t' := (.array .int)) (by decide) (by decide)))).other W173 (Or.inr (slot_ne (a0 := a0) (C := "com/example/sieve_for_links/sieveforlinks/VirtualLinks") (Or.inr (hw _ (List.mem_of_getElem? (i := 32) rfl))) (Or.inr (hw _ (List.mem_of_getElem? (i := 30) rfl))) (by decide) (t := (.array .int)) (t' := (.array .double)) (by decide) (by decide))))
          have F180 := (F175.wr W173)
          refine OwnW.putF (a0 := a0) (pc' := 265) d2_262 (host := "") (Or.inl (hw _ (List.mem_of_getElem? (i := 31) rfl))) Via.refl F179 F180 (Or.inr ⟨(hw _ (List.mem_of_getElem? (i := 32) rfl)), rfl, rfl⟩) (hw _ (List.mem_of_getElem? (i := 7) rfl)) (ty := (.array .int)) (by decide) rfl rfl g_o rfl ?_
          intro h178 W178
          have sz181 : n0 ≤ h178.size := (by rw [W178.size]; exact sz176)
          have F182 := F179.same W178
          refine OwnW.aloadN (pc' := 266) d2_265 rfl (rfl) rfl ?_
          refine OwnW.aload (pc' := 268) d2_266 rfl (rfl) rfl ?_
          have F184 := ((((((((((((((((((((F_memberStarts.ext E3).other W17 (Or.inl (Nat.ne_of_lt lt_o_ad3))).other W32 (Or.inl (Nat.ne_of_lt lt_o_ad3))).other W47 (Or.inl (Nat.ne_of_lt lt_o_ad3))).other W62 (Or.inl (Nat.ne_of_lt lt_o_ad3))).ext E67).other W72 (Or.inl (Nat.ne_of_lt lt_o_ad67))).other W78 (Or.inl (Nat.ne_of_lt lt_o_ad67))).other W84 (Or.inl (Nat.ne_of_lt lt_o_ad67))).ext Em).keep K89 nin0).other W97 (Or.inl (Nat.ne_of_lt lt_o_ad89_0))).other W101 (Or.inl (Nat.ne_of_lt lt_o_am))).other W110 (Or.inl (Nat.ne_of_lt lt_o_ad89_0))).other W114 (Or.inl (Nat.ne_of_lt lt_o_am))).other W123 (Or.inl (Nat.ne_of_lt lt_o_ad89_0))).other W127 (Or.inl (Nat.ne_of_lt lt_o_am))).other W168 (Or.inr (slot_ne (a0 := a0) (C := "com/example/sieve_for_links/sieveforlinks/VirtualLinks") (Or.inr (hw _ (List.mem_of_getElem? (i := 34) rfl))) (Or.inr (hw _ (List.mem_of_getElem? (i := 28) rfl))) (by decide) (t := (.array .int)) (t' := (.array .int)) (by decide) (by decide)))).other W173 (Or.inr (slot_ne (a0 := a0) (C := "com/example/sieve_for_links/sieveforlinks/VirtualLinks") (Or.inr (hw _ (List.mem_of_getElem? (i := 34) rfl))) (Or.inr (hw _ (List.mem_of_getElem? (i := 30) rfl))) (by decide) (t := (.array .int)) (t' := (.array .double)) (by decide) (by decide)))).other W178 (Or.inr (slot_ne (a0 := a0) (C := "com/example/sieve_for_links/sieveforlinks/VirtualLinks") (Or.inr (hw _ (List.mem_of_getElem? (i := 34) rfl))) (Or.inr (hw _ (List.mem_of_getElem? (i := 32) rfl))) (by decide) (t := (.array .int)) (t' := (.array .int)) (by decide) (by decide))))
          have F185 := (F180.wr W178)
          refine OwnW.putF (a0 := a0) (pc' := 271) d2_268 (host := "") (Or.inl (hw _ (List.mem_of_getElem? (i := 33) rfl))) Via.refl F184 F185 (Or.inr ⟨(hw _ (List.mem_of_getElem? (i := 34) rfl)), rfl, rfl⟩) (hw _ (List.mem_of_getElem? (i := 7) rfl)) (ty := (.array .int)) (by decide) rfl rfl g_o rfl ?_
          intro h183 W183
          have sz186 : n0 ≤ h183.size := (by rw [W183.size]; exact sz181)
          have F187 := F184.same W183
          exact OwnW.ret0 d2_271 rfl (by decide) (by decide) (⟨ad67, am, kc67, km, rfl, ((((((((((((((((((((((Keep.refl h0 [o]).ext E3).wr W17 (Or.inr (Nat.le_trans (Nat.le_refl _) (Nat.le_of_eq gq3.symm)))).wr W32 (Or.inr (Nat.le_trans (Nat.le_refl _) (Nat.le_of_eq gq3.symm)))).wr W47 (Or.inr (Nat.le_trans (Nat.le_refl _) (Nat.le_of_eq gq3.symm)))).wr W62 (Or.inr (Nat.le_trans (Nat.le_refl _) (Nat.le_of_eq gq3.symm)))).ext E67).wr W72 (Or.inr (Nat.le_trans (Nat.le_trans (Nat.le_trans (Nat.le_trans (Nat.le_trans (Nat.le_trans (Nat.le_refl _) E3.1) (Nat.le_of_eq W17.size.symm)) (Nat.le_of_eq W32.size.symm)) (Nat.le_of_eq W47.size.symm)) (Nat.le_of_eq W62.size.symm)) (Nat.le_of_eq gq67.symm)))).wr W78 (Or.inr (Nat.le_trans (Nat.le_trans (Nat.le_trans (Nat.le_trans (Nat.le_trans (Nat.le_trans (Nat.le_refl _) E3.1) (Nat.le_of_eq W17.size.symm)) (Nat.le_of_eq W32.size.symm)) (Nat.le_of_eq W47.size.symm)) (Nat.le_of_eq W62.size.symm)) (Nat.le_of_eq gq67.symm)))).wr W84 (Or.inr (Nat.le_trans (Nat.le_trans (Nat.le_trans (Nat.le_trans (Nat.le_trans (Nat.le_trans (Nat.le_refl _) E3.1) (Nat.le_of_eq W17.size.symm)) (Nat.le_of_eq W32.size.symm)) (Nat.le_of_eq W47.size.symm)) (Nat.le_of_eq W62.size.symm)) (Nat.le_of_eq gq67.symm)))).ext Em).trans K89 all0).wr W97 (Or.inr (Nat.le_trans (Nat.le_trans (Nat.le_trans (Nat.le_trans (Nat.le_trans (Nat.le_trans (Nat.le_trans (Nat.le_trans (Nat.le_trans (Nat.le_trans (Nat.le_trans (Nat.le_refl _) E3.1) (Nat.le_of_eq W17.size.symm)) (Nat.le_of_eq W32.size.symm)) (Nat.le_of_eq W47.size.symm)) (Nat.le_of_eq W62.size.symm)) E67.1) (Nat.le_of_eq W72.size.symm)) (Nat.le_of_eq W78.size.symm)) (Nat.le_of_eq W84.size.symm)) Em.1) gl89_0))).wr W101 (Or.inr (Nat.le_trans (Nat.le_trans (Nat.le_trans (Nat.le_trans (Nat.le_trans (Nat.le_trans (Nat.le_trans (Nat.le_trans (Nat.le_trans (Nat.le_trans (Nat.le_refl _) E3.1) (Nat.le_of_eq W17.size.symm)) (Nat.le_of_eq W32.size.symm)) (Nat.le_of_eq W47.size.symm)) (Nat.le_of_eq W62.size.symm)) E67.1) (Nat.le_of_eq W72.size.symm)) (Nat.le_of_eq W78.size.symm)) (Nat.le_of_eq W84.size.symm)) (Nat.le_of_eq gm.symm)))).wr W110 (Or.inr (Nat.le_trans (Nat.le_trans (Nat.le_trans (Nat.le_trans (Nat.le_trans (Nat.le_trans (Nat.le_trans (Nat.le_trans (Nat.le_trans (Nat.le_trans (Nat.le_trans (Nat.le_refl _) E3.1) (Nat.le_of_eq W17.size.symm)) (Nat.le_of_eq W32.size.symm)) (Nat.le_of_eq W47.size.symm)) (Nat.le_of_eq W62.size.symm)) E67.1) (Nat.le_of_eq W72.size.symm)) (Nat.le_of_eq W78.size.symm)) (Nat.le_of_eq W84.size.symm)) Em.1) gl89_0))).wr W114 (Or.inr (Nat.le_trans (Nat.le_trans (Nat.le_trans (Nat.le_trans (Nat.le_trans (Nat.le_trans (Nat.le_trans (Nat.le_trans (Nat.le_trans (Nat.le_trans (Nat.le_refl _) E3.1) (Nat.le_of_eq W17.size.symm)) (Nat.le_of_eq W32.size.symm)) (Nat.le_of_eq W47.size.symm)) (Nat.le_of_eq W62.size.symm)) E67.1) (Nat.le_of_eq W72.size.symm)) (Nat.le_of_eq W78.size.symm)) (Nat.le_of_eq W84.size.symm)) (Nat.le_of_eq gm.symm)))).wr W123 (Or.inr (Nat.le_trans (Nat.le_trans (Nat.le_trans (Nat.le_trans (Nat.le_trans (Nat.le_trans (Nat.le_trans (Nat.le_trans (Nat.le_trans (Nat.le_trans (Nat.le_trans (Nat.le_refl _) E3.1) (Nat.le_of_eq W17.size.symm)) (Nat.le_of_eq W32.size.symm)) (Nat.le_of_eq W47.size.symm)) (Nat.le_of_eq W62.size.symm)) E67.1) (Nat.le_of_eq W72.size.symm)) (Nat.le_of_eq W78.size.symm)) (Nat.le_of_eq W84.size.symm)) Em.1) gl89_0))).wr W127 (Or.inr (Nat.le_trans (Nat.le_trans (Nat.le_trans (Nat.le_trans (Nat.le_trans (Nat.le_trans (Nat.le_trans (Nat.le_trans (Nat.le_trans (Nat.le_trans (Nat.le_refl _) E3.1) (Nat.le_of_eq W17.size.symm)) (Nat.le_of_eq W32.size.symm)) (Nat.le_of_eq W47.size.symm)) (Nat.le_of_eq W62.size.symm)) E67.1) (Nat.le_of_eq W72.size.symm)) (Nat.le_of_eq W78.size.symm)) (Nat.le_of_eq W84.size.symm)) (Nat.le_of_eq gm.symm)))).wr W168 (Or.inl (List.mem_of_getElem? (i := 0) rfl))).wr W173 (Or.inl (List.mem_of_getElem? (i := 0) rfl))).wr W178 (Or.inl (List.mem_of_getElem? (i := 0) rfl))).wr W183 (Or.inl (List.mem_of_getElem? (i := 0) rfl))), (Nat.le_trans (Nat.le_trans (Nat.le_trans (Nat.le_trans (Nat.le_trans (Nat.le_trans (Nat.le_refl _) E3.1) (Nat.le_of_eq W17.size.symm)) (Nat.le_of_eq W32.size.symm)) (Nat.le_of_eq W47.size.symm)) (Nat.le_of_eq W62.size.symm)) (Nat.le_of_eq gq67.symm)), (Nat.le_trans (Nat.le_trans (Nat.le_trans (Nat.le_trans (Nat.le_trans (Nat.le_trans (Nat.le_trans (Nat.le_trans (Nat.le_trans (Nat.le_trans (Nat.le_refl _) E3.1) (Nat.le_of_eq W17.size.symm)) (Nat.le_of_eq W32.size.symm)) (Nat.le_of_eq W47.size.symm)) (Nat.le_of_eq W62.size.symm)) E67.1) (Nat.le_of_eq W72.size.symm)) (Nat.le_of_eq W78.size.symm)) (Nat.le_of_eq W84.size.symm)) (Nat.le_of_eq gm.symm)), (Nat.ne_of_lt lt_ad67_am), (F185.wr W183), ((F177.other W178 (Or.inr (slot_ne (a0 := a0) (C := "com/example/sieve_for_links/sieveforlinks/VirtualLinks") (Or.inr (hw _ (List.mem_of_getElem? (i := 30) rfl))) (Or.inr (hw _ (List.mem_of_getElem? (i := 32) rfl))) (by decide) (t := (.array .double)) (t' := (.array .int)) (by decide) (by decide)))).other W183 (Or.inr (slot_ne (a0 := a0) (C := "com/example/sieve_for_links/sieveforlinks/VirtualLinks") (Or.inr (hw _ (List.mem_of_getElem? (i := 30) rfl))) (Or.inr (hw _ (List.mem_of_getElem? (i := 34) rfl))) (by decide) (t := (.array .double)) (t' := (.array .int)) (by decide) (by decide)))), (F182.other W183 (Or.inr (slot_ne (a0 := a0) (C := "com/example/sieve_for_links/sieveforlinks/VirtualLinks") (Or.inr (hw _ (List.mem_of_getElem? (i := 32) rfl))) (Or.inr (hw _ (List.mem_of_getElem? (i := 34) rfl))) (by decide) (t := (.array .int)) (t' := (.array .int)) (by decide) (by decide)))), F187, ((((VE1.other W168 (Ne.symm (Nat.ne_of_lt lt_o_ad67))).other W173 (Ne.symm (Nat.ne_of_lt lt_o_ad67))).other W178 (Ne.symm (Nat.ne_of_lt lt_o_ad67))).other W183 (Ne.symm (Nat.ne_of_lt lt_o_ad67))), ((((VE2.other W168 (Ne.symm (Nat.ne_of_lt lt_o_am))).other W173 (Ne.symm (Nat.ne_of_lt lt_o_am))).other W178 (Ne.symm (Nat.ne_of_lt lt_o_am))).other W183 (Ne.symm (Nat.ne_of_lt lt_o_am)))⟩)
      ·
        refine OwnW.ifcY (pc' := 243) d2_223 ((if0 _ _).trans (flt hc223_2).2.2.2) (by decide) (by decide) ?_
        refine OwnW.iinc (pc' := 246) (L' := #[.val (.ref o), .val (.ref q0), .val (.ref q1), .val (.int (3 : Int32)), .val (.ref ad3), .val (.ref ad67), .val (.ref am), .val (.ref ad89_0), .val (.int (3 : Int32))]) (d := (1 : Int32)) d2_243 rfl rfl rfl rfl ?_
        refine OwnW.goto (pc' := 212) d2_246 (by decide) (by decide) ?_
        refine OwnW.iload (pc' := 214) d2_212 rfl rfl ?_
        refine OwnW.aloadN (pc' := 215) d2_214 rfl (rfl) rfl ?_
        obtain ⟨cl188, Ar188, qk188, Sz188, Mn188, Hv188, Gf188⟩ := id F117
        refine OwnW.alen (pc' := 216) (x := (4 : Int32)) d2_215 Ar188 (len_of Sz188 Mn188) rfl ?_
        refine OwnW.icmpN (pc' := 219) d2_216 (tlt (by decide)).2.1 rfl ?_
        refine OwnW.aloadN (pc' := 220) d2_219 rfl (rfl) rfl ?_
        refine OwnW.iload (pc' := 222) d2_220 rfl rfl ?_
        obtain ⟨cl189, Ar189, qk189, Sz189, Mn189, Hv189, Gf189⟩ := id F117
        refine OwnW.iaload (pc' := 223) (v := (.int g3)) d2_222 Ar189 (inb_of Sz189 ⟨by decide, by decide⟩) (Hv189.at (inb_of Sz189 ⟨by decide, by decide⟩) rfl) rfl ?_
        by_cases hc223_3 : (0 : Int32) < g3
        ·
          refine OwnW.ifcN (pc' := 226) d2_223 ((if0 _ _).trans (tlt hc223_3).2.2.2) rfl ?_
          refine OwnW.aload (pc' := 228) d2_226 rfl (rfl) rfl ?_
          refine OwnW.aload (pc' := 230) d2_228 rfl (rfl) rfl ?_
          refine OwnW.aloadN (pc' := 231) d2_230 rfl (rfl) rfl ?_
          refine OwnW.iload (pc' := 233) d2_231 rfl rfl ?_
          obtain ⟨cl190, Ar190, qk190, Sz190, Mn190, Hv190, Gf190⟩ := id F117
          refine OwnW.iaload (pc' := 234) (v := (.int g3)) d2_233 Ar190 (inb_of Sz190 ⟨by decide, by decide⟩) (Hv190.at (inb_of Sz190 ⟨by decide, by decide⟩) rfl) rfl ?_
          refine OwnW.dup2 (pc' := 235) d2_234 rfl rfl rfl ?_
          have F191 := (VC111.other W114 (Ne.symm (Nat.ne_of_lt lt_am_ad89_0)))
          obtain ⟨cl192, Ar192, qk192, Sz192, Mn192, Hv192, Gf192⟩ := id F191
          refine OwnW.iaload (pc' := 236) (v := .int (C111.getD g3.toNatClampNeg 0)) d2_235 Ar192 (inb_of Sz192 (own_bd hg3)) (Hv192.at (inb_of Sz192 (own_bd hg3)) (own_gd C111 g3.toNatClampNeg)) rfl ?_
          show GoB2 l Z n0 (Q2 Z o q0 q1 kg ks g0 g1 g2 g3 s0 s1 s2 s3 h0) h114 4 17 236 #[.val (.ref o), .val (.ref q0), .val (.ref q1), .val (.int (3 : Int32)), .val (.ref ad3), .val (.ref ad67), .val (.ref am), .val (.ref ad89_0), .val (.int (3 : Int32))] [(.int (C111.getD g3.toNatClampNeg 0)), (.int g3), (.ref ad89_0), (.ref am)]
          refine OwnW.dupX2 (pc' := 237) d2_236 rfl ?_
          refine OwnW.iconst (pc' := 238) (v := (1 : Int32)) d2_237 rfl rfl ?_
          refine OwnW.iadd (pc' := 239) d2_238 rfl ?_
          obtain ⟨cl193, Ar193, qk193, Sz193, Mn193, Hv193, Gf193⟩ := id F191
          have bb193 := (own_bd hg3)
          refine OwnW.stI (pc' := 240) d2_239 Ar193 (inb_of Sz193 bb193) ge_ad89_0 rfl ?_
          intro h193 W193
          have sz195 : n0 ≤ h193.size := (by rw [W193.size]; exact sz116)
          obtain ⟨C194, hC194⟩ : ∃ z : List Int32, z = (C111.set g3.toNatClampNeg ((C111.getD g3.toNatClampNeg 0) + (1 : Int32))) := ⟨_, rfl⟩
          have VC194 : Arv Z h193 ad89_0 kc89_0 .int (4 : Int32) (C194.map Value.int) (.int (0 : Int32)) := by rw [hC194, List.map_set]; exact Arv.set Ar193 qk193 Sz193 Mn193 Hv193 Gf193 rfl W193 g3.toNatClampNeg rfl (own_ln (z := (4 : Int32)) lC111 bb193 (by decide))
          have lC194 : C194.length = 4 := by rw [hC194, List.length_set]; exact lC111
          show GoB2 l Z n0 (Q2 Z o q0 q1 kg ks g0 g1 g2 g3 s0 s1 s2 s3 h0) h193 4 17 240 #[.val (.ref o), .val (.ref q0), .val (.ref q1), .val (.int (3 : Int32)), .val (.ref ad3), .val (.ref ad67), .val (.ref am), .val (.ref ad89_0), .val (.int (3 : Int32))] [(.int (C111.getD g3.toNatClampNeg 0)), (.ref am)]
          refine OwnW.iload (pc' := 242) d2_240 rfl rfl ?_
          have F196 := (VC115.other W193 (Nat.ne_of_lt lt_am_ad89_0))
          obtain ⟨cl197, Ar197, qk197, Sz197, Mn197, Hv197, Gf197⟩ := id F196
          have bb197 := (own_mb4 hg0 hg1 hg2 hg3 hC15 hC18 hC33 hC48 hC63 hC68 hC73 hC79 hC85 hC0 hC95 hC98 hC102 hC111 hC115 hC194 htt hc223 hc223_1 hc223_2 hc223_3)
          refine OwnW.stI (pc' := 243) d2_242 Ar197 (inb_of Sz197 bb197) ge_am rfl ?_
          intro h197 W197
          have sz199 : n0 ≤ h197.size := (by rw [W197.size]; exact sz195)
          obtain ⟨C198, hC198⟩ : ∃ z : List Int32, z = (C115.set (C111.getD g3.toNatClampNeg 0).toNatClampNeg (3 : Int32)) := ⟨_, rfl⟩
          have VC198 : Arv Z h197 am km .int tt (C198.map Value.int) (.int (0 : Int32)) := by rw [hC198, List.map_set]; exact Arv.set Ar197 qk197 Sz197 Mn197 Hv197 Gf197 rfl W197 (C111.getD g3.toNatClampNeg 0).toNatClampNeg rfl (own_ln (z := tt) lC115 bb197 rfl)
          have lC198 : C198.length = tt.toNatClampNeg := by rw [hC198, List.length_set]; exact lC115
          show GoB2 l Z n0 (Q2 Z o q0 q1 kg ks g0 g1 g2 g3 s0 s1 s2 s3 h0) h197 4 17 243 #[.val (.ref o), .val (.ref q0), .val (.ref q1), .val (.int (3 : Int32)), .val (.ref ad3), .val (.ref ad67), .val (.ref am), .val (.ref ad89_0), .val (.int (3 : Int32))] []
          refine OwnW.iinc (pc' := 246) (L' := #[.val (.ref o), .val (.ref q0), .val (.ref q1), .val (.int (3 : Int32)), .val (.ref ad3), .val (.ref ad67), .val (.ref am), .val (.ref ad89_0), .val (.int (4 : Int32))]) (d := (1 : Int32)) d2_243 rfl rfl rfl rfl ?_
          refine OwnW.goto (pc' := 212) d2_246 (by decide) (by decide) ?_
          refine OwnW.iload (pc' := 214) d2_212 rfl rfl ?_
          refine OwnW.aloadN (pc' := 215) d2_214 rfl (rfl) rfl ?_
          have F200 := ((F117.other W193 (Nat.ne_of_lt lt_q0_ad89_0)).other W197 (Nat.ne_of_lt lt_q0_am))
          obtain ⟨cl201, Ar201, qk201, Sz201, Mn201, Hv201, Gf201⟩ := id F200
          refine OwnW.alen (pc' := 216) (x := (4 : Int32)) d2_215 Ar201 (len_of Sz201 Mn201) rfl ?_
          refine OwnW.icmpY (pc' := 249) d2_216 (flt (by decide)).2.1 (by decide) (by decide) ?_
          have he := own_end2 hg0 hg1 hg2 hg3 hC15 hC18 hC33 hC48 hC63 hC68 hC73 hC79 hC85 hC0 hC95 hC98 hC102 hC111 hC115 hC194 hC198 htt hc223 hc223_1 hc223_2 hc223_3
          have F202 := (((((((F88.keep K89 nin0).other W97 (Nat.ne_of_lt lt_ad67_ad89_0)).other W101 (Nat.ne_of_lt lt_ad67_am)).other W110 (Nat.ne_of_lt lt_ad67_ad89_0)).other W114 (Nat.ne_of_lt lt_ad67_am)).other W193 (Nat.ne_of_lt lt_ad67_ad89_0)).other W197 (Nat.ne_of_lt lt_ad67_am))
          have VE1 : Arv Z h197 ad67 kc67 .int (5 : Int32) ((own_SL g0 g1 g2 g3).map Value.int) (.int (0 : Int32)) := by rw [← he.1]; exact F202
          have VE2 : Arv Z h197 am km .int (own_T g0 g1 g2 g3) ((own_ML g0 g1 g2 g3).map Value.int) (.int (0 : Int32)) := by rw [← he.2.1, ← ht2.2.2]; exact VC198
          refine OwnW.aloadN (pc' := 250) d2_249 rfl (rfl) rfl ?_
          refine OwnW.aloadN (pc' := 251) d2_250 rfl (rfl) rfl ?_
          have F204 := (((((((((((((((((F_groups.ext E3).other W17 (Or.inl (Nat.ne_of_lt lt_o_ad3))).other W32 (Or.inl (Nat.ne_of_lt lt_o_ad3))).other W47 (Or.inl (Nat.ne_of_lt lt_o_ad3))).other W62 (Or.inl (Nat.ne_of_lt lt_o_ad3))).ext E67).other W72 (Or.inl (Nat.ne_of_lt lt_o_ad67))).other W78 (Or.inl (Nat.ne_of_lt lt_o_ad67))).other W84 (Or.inl (Nat.ne_of_lt lt_o_ad67))).ext Em).keep K89 nin0).other W97 (Or.inl (Nat.ne_of_lt lt_o_ad89_0))).other W101 (Or.inl (Nat.ne_of_lt lt_o_am))).other W110 (Or.inl (Nat.ne_of_lt lt_o_ad89_0))).other W114 (Or.inl (Nat.ne_of_lt lt_o_am))).other W193 (Or.inl (Nat.ne_of_lt lt_o_ad89_0))).other W197 (Or.inl (Nat.ne_of_lt lt_o_am)))
          have F205 := (((((((((((((((((E_o.ext E3).wr W17).wr W32).wr W47).wr W62).ext E67).wr W72).wr W78).wr W84).ext Em).keep K89).wr W97).wr W101).wr W110).wr W114).wr W193).wr W197)
          refine OwnW.putF (a0 := a0) (pc' := 254) d2_251 (host := "") (Or.inl (hw _ (List.mem_of_getElem? (i := 27) rfl))) Via.refl F204 F205 (Or.inr ⟨(hw _ (List.mem_of_getElem? (i := 28) rfl)), rfl, rfl⟩) (hw _ (List.mem_of_getElem? (i := 7) rfl)) (ty := (.array .int)) (by decide) rfl rfl g_o rfl ?_
          intro h203 W203
          have sz206 : n0 ≤ h203.size := (by rw [W203.size]; exact sz199)
          have F207 := F204.same W203
          refine OwnW.aloadN (pc' := 255) d2_254 rfl (rfl) rfl ?_
          refine OwnW.aloadN (pc' := 256) d2_255 rfl (rfl) rfl ?_
          have F209 := ((((((((((((((((((F_shares.ext E3).other W17 (Or.inl (Nat.ne_of_lt lt_o_ad3))).other W32 (Or.inl (Nat.ne_of_lt lt_o_ad3))).other W47 (Or.inl (Nat.ne_of_lt lt_o_ad3))).other W62 (Or.inl (Nat.ne_of_lt lt_o_ad3))).ext E67).other W72 (Or.inl (Nat.ne_of_lt lt_o_ad67))).other W78 (Or.inl (Nat.ne_of_lt lt_o_ad67))).other W84 (Or.inl (Nat.ne_of_lt lt_o_ad67))).ext Em).keep K89 nin0).other W97 (Or.inl (Nat.ne_of_lt lt_o_ad89_0))).other W101 (Or.inl (Nat.ne_of_lt lt_o_am))).other W110 (Or.inl (Nat.ne_of_lt lt_o_ad89_0))).other W114 (Or.inl (Nat.ne_of_lt lt_o_am))).other W193 (Or.inl (Nat.ne_of_lt lt_o_ad89_0))).other W197 (Or.inl (Nat.ne_of_lt lt_o_am))).other W203 (Or.inr (slot_ne (a0 := a0) (C := "com/example/sieve_for_links/sieveforlinks/VirtualLinks") (Or.inr (hw _ (List.mem_of_getElem? (i := 30) rfl))) (Or.inr (hw _ (List.mem_of_getElem? (i := 28) rfl))) (by decide) (t := (.array .double)) (t' := (.array .int)) (by decide) (by decide))))
          have F210 := (F205.wr W203)
          refine OwnW.putF (a0 := a0) (pc' := 259) d2_256 (host := "") (Or.inl (hw _ (List.mem_of_getElem? (i := 29) rfl))) Via.refl F209 F210 (Or.inr ⟨(hw _ (List.mem_of_getElem? (i := 30) rfl)), rfl, rfl⟩) (hw _ (List.mem_of_getElem? (i := 7) rfl)) (ty := (.array .double)) (by decide) rfl rfl g_o rfl ?_
          intro h208 W208
          have sz211 : n0 ≤ h208.size := (by rw [W208.size]; exact sz206)
          have F212 := F209.same W208
          refine OwnW.aloadN (pc' := 260) d2_259 rfl (rfl) rfl ?_
          refine OwnW.aload (pc' := 262) d2_260 rfl (rfl) rfl ?_
          have F214 := (((((((((((((((((((F_members.ext E3).other W17 (Or.inl (Nat.ne_of_lt lt_o_ad3))).other W32 (Or.inl (Nat.ne_of_lt lt_o_ad3))).other W47 (Or.inl (Nat.ne_of_lt lt_o_ad3))).other W62 (Or.inl (Nat.ne_of_lt lt_o_ad3))).ext E67).other W72 (Or.inl (Nat.ne_of_lt lt_o_ad67))).other W78 (Or.inl (Nat.ne_of_lt lt_o_ad67))).other W84 (Or.inl (Nat.ne_of_lt lt_o_ad67))).ext Em).keep K89 nin0).other W97 (Or.inl (Nat.ne_of_lt lt_o_ad89_0))).other W101 (Or.inl (Nat.ne_of_lt lt_o_am))).other W110 (Or.inl (Nat.ne_of_lt lt_o_ad89_0))).other W114 (Or.inl (Nat.ne_of_lt lt_o_am))).other W193 (Or.inl (Nat.ne_of_lt lt_o_ad89_0))).other W197 (Or.inl (Nat.ne_of_lt lt_o_am))).other W203 (Or.inr (slot_ne (a0 := a0) (C := "com/example/sieve_for_links/sieveforlinks/VirtualLinks") (Or.inr (hw _ (List.mem_of_getElem? (i := 32) rfl))) (Or.inr (hw _ (List.mem_of_getElem? (i := 28) rfl))) (by decide) (t := (.array .int)) (t' := (.array .int)) (by decide) (by decide)))).other W208 (Or.inr (slot_ne (a0 := a0) (C := "com/example/sieve_for_links/sieveforlinks/VirtualLinks") (Or.inr (hw _ (List.mem_of_getElem? (i := 32) rfl))) (Or.inr (hw _ (List.mem_of_getElem? (i := 30) rfl))) (by decide) (t := (.array .int)) (t' := (.array .double)) (by decide) (by decide))))
          have F215 := (F210.wr W208)
          refine OwnW.putF (a0 := a0) (pc' := 265) d2_262 (host := "") (Or.inl (hw _ (List.mem_of_getElem? (i := 31) rfl))) Via.refl F214 F215 (Or.inr ⟨(hw _ (List.mem_of_getElem? (i := 32) rfl)), rfl, rfl⟩) (hw _ (List.mem_of_getElem? (i := 7) rfl)) (ty := (.array .int)) (by decide) rfl rfl g_o rfl ?_
          intro h213 W213
          have sz216 : n0 ≤ h213.size := (by rw [W213.size]; exact sz211)
          have F217 := F214.same W213
          refine OwnW.aloadN (pc' := 266) d2_265 rfl (rfl) rfl ?_
          refine OwnW.aload (pc' := 268) d2_266 rfl (rfl) rfl ?_
          have F219 := ((((((((((((((((((((F_memberStarts.ext E3).other W17 (Or.inl (Nat.ne_of_lt lt_o_ad3))).other W32 (Or.inl (Nat.ne_of_lt lt_o_ad3))).other W47 (Or.inl (Nat.ne_of_lt lt_o_ad3))).other W62 (Or.inl (Nat.ne_of_lt lt_o_ad3))).ext E67).other W72 (Or.inl (Nat.ne_of_lt lt_o_ad67))).other W78 (Or.inl (Nat.ne_of_lt lt_o_ad67))).other W84 (Or.inl (Nat.ne_of_lt lt_o_ad67))).ext Em).keep K89 nin0).other W97 (Or.inl (Nat.ne_of_lt lt_o_ad89_0))).other W101 (Or.inl (Nat.ne_of_lt lt_o_am))).other W110 (Or.inl (Nat.ne_of_lt lt_o_ad89_0))).other W114 (Or.inl (Nat.ne_of_lt lt_o_am))).other W193 (Or.inl (Nat.ne_of_lt lt_o_ad89_0))).other W197 (Or.inl (Nat.ne_of_lt lt_o_am))).other W203 (Or.inr (slot_ne (a0 := a0) (C := "com/example/sieve_for_links/sieveforlinks/VirtualLinks") (Or.inr (hw _ (List.mem_of_getElem? (i := 34) rfl))) (Or.inr (hw _ (List.mem_of_getElem? (i := 28) rfl))) (by decide) (t := (.array .int)) (t' := (.array .int)) (by decide) (by decide)))).other W208 (Or.inr (slot_ne (a0 := a0) (C := "com/example/sieve_for_links/sieveforlinks/VirtualLinks") (Or.inr (hw _ (List.mem_of_getElem? (i := 34) rfl))) (Or.inr (hw _ (List.mem_of_getElem? (i := 30) rfl))) (by decide) (t := (.array .int)) (t' := (.array .double)) (by decide) (by decide)))).other W213 (Or.inr (slot_ne (a0 := a0) (C := "com/example/sieve_for_links/sieveforlinks/VirtualLinks") (Or.inr (hw _ (List.mem_of_getElem? (i := 34) rfl))) (Or.inr (hw _ (List.mem_of_getElem? (i := 32) rfl))) (by decide) (t := (.array .int)) (t' := (.array .int)) (by decide) (by decide))))
          have F220 := (F215.wr W213)
          refine OwnW.putF (a0 := a0) (pc' := 271) d2_268 (host := "") (Or.inl (hw _ (List.mem_of_getElem? (i := 33) rfl))) Via.refl F219 F220 (Or.inr ⟨(hw _ (List.mem_of_getElem? (i := 34) rfl)), rfl, rfl⟩) (hw _ (List.mem_of_getElem? (i := 7) rfl)) (ty := (.array .int)) (by decide) rfl rfl g_o rfl ?_
          intro h218 W218
          have sz221 : n0 ≤ h218.size := (by rw [W218.size]; exact sz216)
          have F222 := F219.same W218
          exact OwnW.ret0 d2_271 rfl (by decide) (by decide) (⟨ad67, am, kc67, km, rfl, ((((((((((((((((((((((Keep.refl h0 [o]).ext E3).wr W17 (Or.inr (Nat.le_trans (Nat.le_refl _) (Nat.le_of_eq gq3.symm)))).wr W32 (Or.inr (Nat.le_trans (Nat.le_refl _) (Nat.le_of_eq gq3.symm)))).wr W47 (Or.inr (Nat.le_trans (Nat.le_refl _) (Nat.le_of_eq gq3.symm)))).wr W62 (Or.inr (Nat.le_trans (Nat.le_refl _) (Nat.le_of_eq gq3.symm)))).ext E67).wr W72 (Or.inr (Nat.le_trans (Nat.le_trans (Nat.le_trans (Nat.le_trans (Nat.le_trans (Nat.le_trans (Nat.le_refl _) E3.1) (Nat.le_of_eq W17.size.symm)) (Nat.le_of_eq W32.size.symm)) (Nat.le_of_eq W47.size.symm)) (Nat.le_of_eq W62.size.symm)) (Nat.le_of_eq gq67.symm)))).wr W78 (Or.inr (Nat.le_trans (Nat.le_trans (Nat.le_trans (Nat.le_trans (Nat.le_trans (Nat.le_trans (Nat.le_refl _) E3.1) (Nat.le_of_eq W17.size.symm)) (Nat.le_of_eq W32.size.symm)) (Nat.le_of_eq W47.size.symm)) (Nat.le_of_eq W62.size.symm)) (Nat.le_of_eq gq67.symm)))).wr W84 (Or.inr (Nat.le_trans (Nat.le_trans (Nat.le_trans (Nat.le_trans (Nat.le_trans (Nat.le_trans (Nat.le_refl _) E3.1) (Nat.le_of_eq W17.size.symm)) (Nat.le_of_eq W32.size.symm)) (Nat.le_of_eq W47.size.symm)) (Nat.le_of_eq W62.size.symm)) (Nat.le_of_eq gq67.symm)))).ext Em).trans K89 all0).wr W97 (Or.inr (Nat.le_trans (Nat.le_trans (Nat.le_trans (Nat.le_trans (Nat.le_trans (Nat.le_trans (Nat.le_trans (Nat.le_trans (Nat.le_trans (Nat.le_trans (Nat.le_trans (Nat.le_refl _) E3.1) (Nat.le_of_eq W17.size.symm)) (Nat.le_of_eq W32.size.symm)) (Nat.le_of_eq W47.size.symm)) (Nat.le_of_eq W62.size.symm)) E67.1) (Nat.le_of_eq W72.size.symm)) (Nat.le_of_eq W78.size.symm)) (Nat.le_of_eq W84.size.symm)) Em.1) gl89_0))).wr W101 (Or.inr (Nat.le_trans (Nat.le_trans (Nat.le_trans (Nat.le_trans (Nat.le_trans (Nat.le_trans (Nat.le_trans (Nat.le_trans (Nat.le_trans (Nat.le_trans (Nat.le_refl _) E3.1) (Nat.le_of_eq W17.size.symm)) (Nat.le_of_eq W32.size.symm)) (Nat.le_of_eq W47.size.symm)) (Nat.le_of_eq W62.size.symm)) E67.1) (Nat.le_of_eq W72.size.symm)) (Nat.le_of_eq W78.size.symm)) (Nat.le_of_eq W84.size.symm)) (Nat.le_of_eq gm.symm)))).wr W110 (Or.inr (Nat.le_trans (Nat.le_trans (Nat.le_trans (Nat.le_trans (Nat.le_trans (Nat.le_trans (Nat.le_trans (Nat.le_trans (Nat.le_trans (Nat.le_trans (Nat.le_trans (Nat.le_refl _) E3.1) (Nat.le_of_eq W17.size.symm)) (Nat.le_of_eq W32.size.symm)) (Nat.le_of_eq W47.size.symm)) (Nat.le_of_eq W62.size.symm)) E67.1) (Nat.le_of_eq W72.size.symm)) (Nat.le_of_eq W78.size.symm)) (Nat.le_of_eq W84.size.symm)) Em.1) gl89_0))).wr W114 (Or.inr (Nat.le_trans (Nat.le_trans (Nat.le_trans (Nat.le_trans (Nat.le_trans (Nat.le_trans (Nat.le_trans (Nat.le_trans (Nat.le_trans (Nat.le_trans (Nat.le_refl _) E3.1) (Nat.le_of_eq W17.size.symm)) (Nat.le_of_eq W32.size.symm)) (Nat.le_of_eq W47.size.symm)) (Nat.le_of_eq W62.size.symm)) E67.1) (Nat.le_of_eq W72.size.symm)) (Nat.le_of_eq W78.size.symm)) (Nat.le_of_eq W84.size.symm)) (Nat.le_of_eq gm.symm)))).wr W193 (Or.inr (Nat.le_trans (Nat.le_trans (Nat.le_trans (Nat.le_trans (Nat.le_trans (Nat.le_trans (Nat.le_trans (Nat.le_trans (Nat.le_trans (Nat.le_trans (Nat.le_trans (Nat.le_refl _) E3.1) (Nat.le_of_eq W17.size.symm)) (Nat.le_of_eq W32.size.symm)) (Nat.le_of_eq W47.size.symm)) (Nat.le_of_eq W62.size.symm)) E67.1) (Nat.le_of_eq W72.size.symm)) (Nat.le_of_eq W78.size.symm)) (Nat.le_of_eq W84.size.symm)) Em.1) gl89_0))).wr W197 (Or.inr (Nat.le_trans (Nat.le_trans (Nat.le_trans (Nat.le_trans (Nat.le_trans (Nat.le_trans (Nat.le_trans (Nat.le_trans (Nat.le_trans (Nat.le_trans (Nat.le_refl _) E3.1) (Nat.le_of_eq W17.size.symm)) (Nat.le_of_eq W32.size.symm)) (Nat.le_of_eq W47.size.symm)) (Nat.le_of_eq W62.size.symm)) E67.1) (Nat.le_of_eq W72.size.symm)) (Nat.le_of_eq W78.size.symm)) (Nat.le_of_eq W84.size.symm)) (Nat.le_of_eq gm.symm)))).wr W203 (Or.inl (List.mem_of_getElem? (i := 0) rfl))).wr W208 (Or.inl (List.mem_of_getElem? (i := 0) rfl))).wr W213 (Or.inl (List.mem_of_getElem? (i := 0) rfl))).wr W218 (Or.inl (List.mem_of_getElem? (i := 0) rfl))), (Nat.le_trans (Nat.le_trans (Nat.le_trans (Nat.le_trans (Nat.le_trans (Nat.le_trans (Nat.le_refl _) E3.1) (Nat.le_of_eq W17.size.symm)) (Nat.le_of_eq W32.size.symm)) (Nat.le_of_eq W47.size.symm)) (Nat.le_of_eq W62.size.symm)) (Nat.le_of_eq gq67.symm)), (Nat.le_trans (Nat.le_trans (Nat.le_trans (Nat.le_trans (Nat.le_trans (Nat.le_trans (Nat.le_trans (Nat.le_trans (Nat.le_trans (Nat.le_trans (Nat.le_refl _) E3.1) (Nat.le_of_eq W17.size.symm)) (Nat.le_of_eq W32.size.symm)) (Nat.le_of_eq W47.size.symm)) (Nat.le_of_eq W62.size.symm)) E67.1) (Nat.le_of_eq W72.size.symm)) (Nat.le_of_eq W78.size.symm)) (Nat.le_of_eq W84.size.symm)) (Nat.le_of_eq gm.symm)), (Nat.ne_of_lt lt_ad67_am), (F220.wr W218), ((F212.other W213 (Or.inr (slot_ne (a0 := a0) (C := "com/example/sieve_for_links/sieveforlinks/VirtualLinks") (Or.inr (hw _ (List.mem_of_getElem? (i := 30) rfl))) (Or.inr (hw _ (List.mem_of_getElem? (i := 32) rfl))) (by decide) (t := (.array .double)) (t' := (.array .int)) (by decide) (by decide)))).other W218 (Or.inr (slot_ne (a0 := a0) (C := "com/example/sieve_for_links/sieveforlinks/VirtualLinks") (Or.inr (hw _ (List.mem_of_getElem? (i := 30) rfl))) (Or.inr (hw _ (List.mem_of_getElem? (i := 34) rfl))) (by decide) (t := (.array .double)) (t' := (.array .int)) (by decide) (by decide)))), (F217.other W218 (Or.inr (slot_ne (a0 := a0) (C := "com/example/sieve_for_links/sieveforlinks/VirtualLinks") (Or.inr (hw _ (List.mem_of_getElem? (i := 32) rfl))) (Or.inr (hw _ (List.mem_of_getElem? (i := 34) rfl))) (by decide) (t := (.array .int)) (t' := (.array .int)) (by decide) (by decide)))), F222, ((((VE1.other W203 (Ne.symm (Nat.ne_of_lt lt_o_ad67))).other W208 (Ne.symm (Nat.ne_of_lt lt_o_ad67))).other W213 (Ne.symm (Nat.ne_of_lt lt_o_ad67))).other W218 (Ne.symm (Nat.ne_of_lt lt_o_ad67))), ((((VE2.other W203 (Ne.symm (Nat.ne_of_lt lt_o_am))).other W208 (Ne.symm (Nat.ne_of_lt lt_o_am))).other W213 (Ne.symm (Nat.ne_of_lt lt_o_am))).other W218 (Ne.symm (Nat.ne_of_lt lt_o_am)))⟩)
        ·
          refine OwnW.ifcY (pc' := 243) d2_223 ((if0 _ _).trans (flt hc223_3).2.2.2) (by decide) (by decide) ?_
          refine OwnW.iinc (pc' := 246) (L' := #[.val (.ref o), .val (.ref q0), .val (.ref q1), .val (.int (3 : Int32)), .val (.ref ad3), .val (.ref ad67), .val (.ref am), .val (.ref ad89_0), .val (.int (4 : Int32))]) (d := (1 : Int32)) d2_243 rfl rfl rfl rfl ?_
          refine OwnW.goto (pc' := 212) d2_246 (by decide) (by decide) ?_
          refine OwnW.iload (pc' := 214) d2_212 rfl rfl ?_
          refine OwnW.aloadN (pc' := 215) d2_214 rfl (rfl) rfl ?_
          obtain ⟨cl223, Ar223, qk223, Sz223, Mn223, Hv223, Gf223⟩ := id F117
          refine OwnW.alen (pc' := 216) (x := (4 : Int32)) d2_215 Ar223 (len_of Sz223 Mn223) rfl ?_
          refine OwnW.icmpY (pc' := 249) d2_216 (flt (by decide)).2.1 (by decide) (by decide) ?_
          have he := own_end3 hg0 hg1 hg2 hg3 hC15 hC18 hC33 hC48 hC63 hC68 hC73 hC79 hC85 hC0 hC95 hC98 hC102 hC111 hC115 htt hc223 hc223_1 hc223_2 hc223_3
          have F224 := (((((F88.keep K89 nin0).other W97 (Nat.ne_of_lt lt_ad67_ad89_0)).other W101 (Nat.ne_of_lt lt_ad67_am)).other W110 (Nat.ne_of_lt lt_ad67_ad89_0)).other W114 (Nat.ne_of_lt lt_ad67_am))
          have VE1 : Arv Z h114 ad67 kc67 .int (5 : Int32) ((own_SL g0 g1 g2 g3).map Value.int) (.int (0 : Int32)) := by rw [← he.1]; exact F224
          have VE2 : Arv Z h114 am km .int (own_T g0 g1 g2 g3) ((own_ML g0 g1 g2 g3).map Value.int) (.int (0 : Int32)) := by rw [← he.2.1, ← ht2.2.2]; exact VC115
          refine OwnW.aloadN (pc' := 250) d2_249 rfl (rfl) rfl ?_
          refine OwnW.aloadN (pc' := 251) d2_250 rfl (rfl) rfl ?_
          have F226 := (((((((((((((((F_groups.ext E3).other W17 (Or.inl (Nat.ne_of_lt lt_o_ad3))).other W32 (Or.inl (Nat.ne_of_lt lt_o_ad3))).other W47 (Or.inl (Nat.ne_of_lt lt_o_ad3))).other W62 (Or.inl (Nat.ne_of_lt lt_o_ad3))).ext E67).other W72 (Or.inl (Nat.ne_of_lt lt_o_ad67))).other W78 (Or.inl (Nat.ne_of_lt lt_o_ad67))).other W84 (Or.inl (Nat.ne_of_lt lt_o_ad67))).ext Em).keep K89 nin0).other W97 (Or.inl (Nat.ne_of_lt lt_o_ad89_0))).other W101 (Or.inl (Nat.ne_of_lt lt_o_am))).other W110 (Or.inl (Nat.ne_of_lt lt_o_ad89_0))).other W114 (Or.inl (Nat.ne_of_lt lt_o_am)))
          have F227 := (((((((((((((((E_o.ext E3).wr W17).wr W32).wr W47).wr W62).ext E67).wr W72).wr W78).wr W84).ext Em).keep K89).wr W97).wr W101).wr W110).wr W114)
          refine OwnW.putF (a0 := a0) (pc' := 254) d2_251 (host := "") (Or.inl (hw _ (List.mem_of_getElem? (i := 27) rfl))) Via.refl F226 F227 (Or.inr ⟨(hw _ (List.mem_of_getElem? (i := 28) rfl)), rfl, rfl⟩) (hw _ (List.mem_of_getElem? (i := 7) rfl)) (ty := (.array .int)) (by decide) rfl rfl g_o rfl ?_
          intro h225 W225
          have sz228 : n0 ≤ h225.size := (by rw [W225.size]; exact sz116)
          have F229 := F226.same W225
          refine OwnW.aloadN (pc' := 255) d2_254 rfl (rfl) rfl ?_
          refine OwnW.aloadN (pc' := 256) d2_255 rfl (rfl) rfl ?_
          have F231 := ((((((((((((((((F_shares.ext E3).other W17 (Or.inl (Nat.ne_of_lt lt_o_ad3))).other W32 (Or.inl (Nat.ne_of_lt lt_o_ad3))).other W47 (Or.inl (Nat.ne_of_lt lt_o_ad3))).other W62 (Or.inl (Nat.ne_of_lt lt_o_ad3))).ext E67).other W72 (Or.inl (Nat.ne_of_lt lt_o_ad67))).other W78 (Or.inl (Nat.ne_of_lt lt_o_ad67))).other W84 (Or.inl (Nat.ne_of_lt lt_o_ad67))).ext Em).keep K89 nin0).other W97 (Or.inl (Nat.ne_of_lt lt_o_ad89_0))).other W101 (Or.inl (Nat.ne_of_lt lt_o_am))).other W110 (Or.inl (Nat.ne_of_lt lt_o_ad89_0))).other W114 (Or.inl (Nat.ne_of_lt lt_o_am))).other W225 (Or.inr (slot_ne (a0 := a0) (C := "com/example/sieve_for_links/sieveforlinks/VirtualLinks") (Or.inr (hw _ (List.mem_of_getElem? (i := 30) rfl))) (Or.inr (hw _ (List.mem_of_getElem? (i := 28) rfl))) (by decide) (t := (.array .double)) (t' := (.array .int)) (by decide) (by decide))))
          have F232 := (F227.wr W225)
          refine OwnW.putF (a0 := a0) (pc' := 259) d2_256 (host := "") (Or.inl (hw _ (List.mem_of_getElem? (i := 29) rfl))) Via.refl F231 F232 (Or.inr ⟨(hw _ (List.mem_of_getElem? (i := 30) rfl)), rfl, rfl⟩) (hw _ (List.mem_of_getElem? (i := 7) rfl)) (ty := (.array .double)) (by decide) rfl rfl g_o rfl ?_
          intro h230 W230
          have sz233 : n0 ≤ h230.size := (by rw [W230.size]; exact sz228)
          have F234 := F231.same W230
          refine OwnW.aloadN (pc' := 260) d2_259 rfl (rfl) rfl ?_
          refine OwnW.aload (pc' := 262) d2_260 rfl (rfl) rfl ?_
          have F236 := (((((((((((((((((F_members.ext E3).other W17 (Or.inl (Nat.ne_of_lt lt_o_ad3))).other W32 (Or.inl (Nat.ne_of_lt lt_o_ad3))).other W47 (Or.inl (Nat.ne_of_lt lt_o_ad3))).other W62 (Or.inl (Nat.ne_of_lt lt_o_ad3))).ext E67).other W72 (Or.inl (Nat.ne_of_lt lt_o_ad67))).other W78 (Or.inl (Nat.ne_of_lt lt_o_ad67))).other W84 (Or.inl (Nat.ne_of_lt lt_o_ad67))).ext Em).keep K89 nin0).other W97 (Or.inl (Nat.ne_of_lt lt_o_ad89_0))).other W101 (Or.inl (Nat.ne_of_lt lt_o_am))).other W110 (Or.inl (Nat.ne_of_lt lt_o_ad89_0))).other W114 (Or.inl (Nat.ne_of_lt lt_o_am))).other W225 (Or.inr (slot_ne (a0 := a0) (C := "com/example/sieve_for_links/sieveforlinks/VirtualLinks") (Or.inr (hw _ (List.mem_of_getElem? (i := 32) rfl))) (Or.inr (hw _ (List.mem_of_getElem? (i := 28) rfl))) (by decide) (t := (.array .int)) (t' := (.array .int)) (by decide) (by decide)))).other W230 (Or.inr (slot_ne (a0 := a0) (C := "com/example/sieve_for_links/sieveforlinks/VirtualLinks") (Or.inr (hw _ (List.mem_of_getElem? (i := 32) rfl))) (Or.inr (hw _ (List.mem_of_getElem? (i := 30) rfl))) (by decide) (t := (.array .int)) (t' := (.array .double)) (by decide) (by decide))))
          have F237 := (F232.wr W230)
          refine OwnW.putF (a0 := a0) (pc' := 265) d2_262 (host := "") (Or.inl (hw _ (List.mem_of_getElem? (i := 31) rfl))) Via.refl F236 F237 (Or.inr ⟨(hw _ (List.mem_of_getElem? (i := 32) rfl)), rfl, rfl⟩) (hw _ (List.mem_of_getElem? (i := 7) rfl)) (ty := (.array .int)) (by decide) rfl rfl g_o rfl ?_
          intro h235 W235
          have sz238 : n0 ≤ h235.size := (by rw [W235.size]; exact sz233)
          have F239 := F236.same W235
          refine OwnW.aloadN (pc' := 266) d2_265 rfl (rfl) rfl ?_
          refine OwnW.aload (pc' := 268) d2_266 rfl (rfl) rfl ?_
          have F241 := ((((((((((((((((((F_memberStarts.ext E3).other W17 (Or.inl (Nat.ne_of_lt lt_o_ad3))).other W32 (Or.inl (Nat.ne_of_lt lt_o_ad3))).other W47 (Or.inl (Nat.ne_of_lt lt_o_ad3))).other W62 (Or.inl (Nat.ne_of_lt lt_o_ad3))).ext E67).other W72 (Or.inl (Nat.ne_of_lt lt_o_ad67))).other W78 (Or.inl (Nat.ne_of_lt lt_o_ad67))).other W84 (Or.inl (Nat.ne_of_lt lt_o_ad67))).ext Em).keep K89 nin0).other W97 (Or.inl (Nat.ne_of_lt lt_o_ad89_0))).other W101 (Or.inl (Nat.ne_of_lt lt_o_am))).other W110 (Or.inl (Nat.ne_of_lt lt_o_ad89_0))).other W114 (Or.inl (Nat.ne_of_lt lt_o_am))).other W225 (Or.inr (slot_ne (a0 := a0) (C := "com/example/sieve_for_links/sieveforlinks/VirtualLinks") (Or.inr (hw _ (List.mem_of_getElem? (i := 34) rfl))) (Or.inr (hw _ (List.mem_of_getElem? (i := 28) rfl))) (by decide) (t := (.array .int)) (t' := (.array .int)) (by decide) (by decide)))).other W230 (Or.inr (slot_ne (a0 := a0) (C := "com/example/sieve_for_links/sieveforlinks/VirtualLinks") (Or.inr (hw _ (List.mem_of_getElem? (i := 34) rfl))) (Or.inr (hw _ (List.mem_of_getElem? (i := 30) rfl))) (by decide) (t := (.array .int)) (t' := (.array .double)) (by decide) (by decide)))).other W235 (Or.inr (slot_ne (a0 := a0) (C := "com/example/sieve_for_links/sieveforlinks/VirtualLinks") (Or.inr (hw _ (List.mem_of_getElem? (i := 34) rfl))) (Or.inr (hw _ (List.mem_of_getElem? (i := 32) rfl))) (by decide) (t := (.array .int)) (t' := (.array .int)) (by decide) (by decide))))
          have F242 := (F237.wr W235)
          refine OwnW.putF (a0 := a0) (pc' := 271) d2_268 (host := "") (Or.inl (hw _ (List.mem_of_getElem? (i := 33) rfl))) Via.refl F241 F242 (Or.inr ⟨(hw _ (List.mem_of_getElem? (i := 34) rfl)), rfl, rfl⟩) (hw _ (List.mem_of_getElem? (i := 7) rfl)) (ty := (.array .int)) (by decide) rfl rfl g_o rfl ?_
          intro h240 W240
          have sz243 : n0 ≤ h240.size := (by rw [W240.size]; exact sz238)
          have F244 := F241.same W240
          exact OwnW.ret0 d2_271 rfl (by decide) (by decide) (⟨ad67, am, kc67, km, rfl, ((((((((((((((((((((Keep.refl h0 [o]).ext E3).wr W17 (Or.inr (Nat.le_trans (Nat.le_refl _) (Nat.le_of_eq gq3.symm)))).wr W32 (Or.inr (Nat.le_trans (Nat.le_refl _) (Nat.le_of_eq gq3.symm)))).wr W47 (Or.inr (Nat.le_trans (Nat.le_refl _) (Nat.le_of_eq gq3.symm)))).wr W62 (Or.inr (Nat.le_trans (Nat.le_refl _) (Nat.le_of_eq gq3.symm)))).ext E67).wr W72 (Or.inr (Nat.le_trans (Nat.le_trans (Nat.le_trans (Nat.le_trans (Nat.le_trans (Nat.le_trans (Nat.le_refl _) E3.1) (Nat.le_of_eq W17.size.symm)) (Nat.le_of_eq W32.size.symm)) (Nat.le_of_eq W47.size.symm)) (Nat.le_of_eq W62.size.symm)) (Nat.le_of_eq gq67.symm)))).wr W78 (Or.inr (Nat.le_trans (Nat.le_trans (Nat.le_trans (Nat.le_trans (Nat.le_trans (Nat.le_trans (Nat.le_refl _) E3.1) (Nat.le_of_eq W17.size.symm)) (Nat.le_of_eq W32.size.symm)) (Nat.le_of_eq W47.size.symm)) (Nat.le_of_eq W62.size.symm)) (Nat.le_of_eq gq67.symm)))).wr W84 (Or.inr (Nat.le_trans (Nat.le_trans (Nat.le_trans (Nat.le_trans (Nat.le_trans (Nat.le_trans (Nat.le_refl _) E3.1) (Nat.le_of_eq W17.size.symm)) (Nat.le_of_eq W32.size.symm)) (Nat.le_of_eq W47.size.symm)) (Nat.le_of_eq W62.size.symm)) (Nat.le_of_eq gq67.symm)))).ext Em).trans K89 all0).wr W97 (Or.inr (Nat.le_trans (Nat.le_trans (Nat.le_trans (Nat.le_trans (Nat.le_trans (Nat.le_trans (Nat.le_trans (Nat.le_trans (Nat.le_trans (Nat.le_trans (Nat.le_trans (Nat.le_refl _) E3.1) (Nat.le_of_eq W17.size.symm)) (Nat.le_of_eq W32.size.symm)) (Nat.le_of_eq W47.size.symm)) (Nat.le_of_eq W62.size.symm)) E67.1) (Nat.le_of_eq W72.size.symm)) (Nat.le_of_eq W78.size.symm)) (Nat.le_of_eq W84.size.symm)) Em.1) gl89_0))).wr W101 (Or.inr (Nat.le_trans (Nat.le_trans (Nat.le_trans (Nat.le_trans (Nat.le_trans (Nat.le_trans (Nat.le_trans (Nat.le_trans (Nat.le_trans (Nat.le_trans (Nat.le_refl _) E3.1) (Nat.le_of_eq W17.size.symm)) (Nat.le_of_eq W32.size.symm)) (Nat.le_of_eq W47.size.symm)) (Nat.le_of_eq W62.size.symm)) E67.1) (Nat.le_of_eq W72.size.symm)) (Nat.le_of_eq W78.size.symm)) (Nat.le_of_eq W84.size.symm)) (Nat.le_of_eq gm.symm)))).wr W110 (Or.inr (Nat.le_trans (Nat.le_trans (Nat.le_trans (Nat.le_trans (Nat.le_trans (Nat.le_trans (Nat.le_trans (Nat.le_trans (Nat.le_trans (Nat.le_trans (Nat.le_trans (Nat.le_refl _) E3.1) (Nat.le_of_eq W17.size.symm)) (Nat.le_of_eq W32.size.symm)) (Nat.le_of_eq W47.size.symm)) (Nat.le_of_eq W62.size.symm)) E67.1) (Nat.le_of_eq W72.size.symm)) (Nat.le_of_eq W78.size.symm)) (Nat.le_of_eq W84.size.symm)) Em.1) gl89_0))).wr W114 (Or.inr (Nat.le_trans (Nat.le_trans (Nat.le_trans (Nat.le_trans (Nat.le_trans (Nat.le_trans (Nat.le_trans (Nat.le_trans (Nat.le_trans (Nat.le_trans (Nat.le_refl _) E3.1) (Nat.le_of_eq W17.size.symm)) (Nat.le_of_eq W32.size.symm)) (Nat.le_of_eq W47.size.symm)) (Nat.le_of_eq W62.size.symm)) E67.1) (Nat.le_of_eq W72.size.symm)) (Nat.le_of_eq W78.size.symm)) (Nat.le_of_eq W84.size.symm)) (Nat.le_of_eq gm.symm)))).wr W225 (Or.inl (List.mem_of_getElem? (i := 0) rfl))).wr W230 (Or.inl (List.mem_of_getElem? (i := 0) rfl))).wr W235 (Or.inl (List.mem_of_getElem? (i := 0) rfl))).wr W240 (Or.inl (List.mem_of_getElem? (i := 0) rfl))), (Nat.le_trans (Nat.le_trans (Nat.le_trans (Nat.le_trans (Nat.le_trans (Nat.le_trans (Nat.le_refl _) E3.1) (Nat.le_of_eq W17.size.symm)) (Nat.le_of_eq W32.size.symm)) (Nat.le_of_eq W47.size.symm)) (Nat.le_of_eq W62.size.symm)) (Nat.le_of_eq gq67.symm)), (Nat.le_trans (Nat.le_trans (Nat.le_trans (Nat.le_trans (Nat.le_trans (Nat.le_trans (Nat.le_trans (Nat.le_trans (Nat.le_trans (Nat.le_trans (Nat.le_refl _) E3.1) (Nat.le_of_eq W17.size.symm)) (Nat.le_of_eq W32.size.symm)) (Nat.le_of_eq W47.size.symm)) (Nat.le_of_eq W62.size.symm)) E67.1) (Nat.le_of_eq W72.size.symm)) (Nat.le_of_eq W78.size.symm)) (Nat.le_of_eq W84.size.symm)) (Nat.le_of_eq gm.symm)), (Nat.ne_of_lt lt_ad67_am), (F242.wr W240), ((F234.other W235 (Or.inr (slot_ne (a0 := a0) (C := "com/example/sieve_for_links/sieveforlinks/VirtualLinks") (Or.inr (hw _ (List.mem_of_getElem? (i := 30) rfl))) (Or.inr (hw _ (List.mem_of_getElem? (i := 32) rfl))) (by decide) (t := (.array .double)) (t' := (.array .int)) (by decide) (by decide)))).other W240 (Or.inr (slot_ne (a0 := a0) (C := "com/example/sieve_for_links/sieveforlinks/VirtualLinks") (Or.inr (hw _ (List.mem_of_getElem? (i := 30) rfl))) (Or.inr (hw _ (List.mem_of_getElem? (i := 34) rfl))) (by decide) (t := (.array .double)) (t' := (.array .int)) (by decide) (by decide)))), (F239.other W240 (Or.inr (slot_ne (a0 := a0) (C := "com/example/sieve_for_links/sieveforlinks/VirtualLinks") (Or.inr (hw _ (List.mem_of_getElem? (i := 32) rfl))) (Or.inr (hw _ (List.mem_of_getElem? (i := 34) rfl))) (by decide) (t := (.array .int)) (t' := (.array .int)) (by decide) (by decide)))), F244, ((((VE1.other W225 (Ne.symm (Nat.ne_of_lt lt_o_ad67))).other W230 (Ne.symm (Nat.ne_of_lt lt_o_ad67))).other W235 (Ne.symm (Nat.ne_of_lt lt_o_ad67))).other W240 (Ne.symm (Nat.ne_of_lt lt_o_ad67))), ((((VE2.other W225 (Ne.symm (Nat.ne_of_lt lt_o_am))).other W230 (Ne.symm (Nat.ne_of_lt lt_o_am))).other W235 (Ne.symm (Nat.ne_of_lt lt_o_am))).other W240 (Ne.symm (Nat.ne_of_lt lt_o_am)))⟩)
    ·
      refine OwnW.ifcY (pc' := 243) d2_223 ((if0 _ _).trans (flt hc223_1).2.2.2) (by decide) (by decide) ?_
      refine OwnW.iinc (pc' := 246) (L' := #[.val (.ref o), .val (.ref q0), .val (.ref q1), .val (.int (3 : Int32)), .val (.ref ad3), .val (.ref ad67), .val (.ref am), .val (.ref ad89_0), .val (.int (2 : Int32))]) (d := (1 : Int32)) d2_243 rfl rfl rfl rfl ?_
      refine OwnW.goto (pc' := 212) d2_246 (by decide) (by decide) ?_
      refine OwnW.iload (pc' := 214) d2_212 rfl rfl ?_
      refine OwnW.aloadN (pc' := 215) d2_214 rfl (rfl) rfl ?_
      obtain ⟨cl245, Ar245, qk245, Sz245, Mn245, Hv245, Gf245⟩ := id F104
      refine OwnW.alen (pc' := 216) (x := (4 : Int32)) d2_215 Ar245 (len_of Sz245 Mn245) rfl ?_
      refine OwnW.icmpN (pc' := 219) d2_216 (tlt (by decide)).2.1 rfl ?_
      refine OwnW.aloadN (pc' := 220) d2_219 rfl (rfl) rfl ?_
      refine OwnW.iload (pc' := 222) d2_220 rfl rfl ?_
      obtain ⟨cl246, Ar246, qk246, Sz246, Mn246, Hv246, Gf246⟩ := id F104
      refine OwnW.iaload (pc' := 223) (v := (.int g2)) d2_222 Ar246 (inb_of Sz246 ⟨by decide, by decide⟩) (Hv246.at (inb_of Sz246 ⟨by decide, by decide⟩) rfl) rfl ?_
      by_cases hc223_2 : (0 : Int32) < g2
      ·
        refine OwnW.ifcN (pc' := 226) d2_223 ((if0 _ _).trans (tlt hc223_2).2.2.2) rfl ?_
        refine OwnW.aload (pc' := 228) d2_226 rfl (rfl) rfl ?_
        refine OwnW.aload (pc' := 230) d2_228 rfl (rfl) rfl ?_
        refine OwnW.aloadN (pc' := 231) d2_230 rfl (rfl) rfl ?_
        refine OwnW.iload (pc' := 233) d2_231 rfl rfl ?_
        obtain ⟨cl247, Ar247, qk247, Sz247, Mn247, Hv247, Gf247⟩ := id F104
        refine OwnW.iaload (pc' := 234) (v := (.int g2)) d2_233 Ar247 (inb_of Sz247 ⟨by decide, by decide⟩) (Hv247.at (inb_of Sz247 ⟨by decide, by decide⟩) rfl) rfl ?_
        refine OwnW.dup2 (pc' := 235) d2_234 rfl rfl rfl ?_
        have F248 := (VC98.other W101 (Ne.symm (Nat.ne_of_lt lt_am_ad89_0)))
        obtain ⟨cl249, Ar249, qk249, Sz249, Mn249, Hv249, Gf249⟩ := id F248
        refine OwnW.iaload (pc' := 236) (v := .int (C98.getD g2.toNatClampNeg 0)) d2_235 Ar249 (inb_of Sz249 (own_bd hg2)) (Hv249.at (inb_of Sz249 (own_bd hg2)) (own_gd C98 g2.toNatClampNeg)) rfl ?_
        show GoB2 l Z n0 (Q2 Z o q0 q1 kg ks g0 g1 g2 g3 s0 s1 s2 s3 h0) h101 4 17 236 #[.val (.ref o), .val (.ref q0), .val (.ref q1), .val (.int (3 : Int32)), .val (.ref ad3), .val (.ref ad67), .val (.ref am), .val (.ref ad89_0), .val (.int (2 : Int32))] [(.int (C98.getD g2.toNatClampNeg 0)), (.int g2), (.ref ad89_0), (.ref am)]
        refine OwnW.dupX2 (pc' := 237) d2_236 rfl ?_
        refine OwnW.iconst (pc' := 238) (v := (1 : Int32)) d2_237 rfl rfl ?_
        refine OwnW.iadd (pc' := 239) d2_238 rfl ?_
        obtain ⟨cl250, Ar250, qk250, Sz250, Mn250, Hv250, Gf250⟩ := id F248
        have bb250 := (own_bd hg2)
        refine OwnW.stI (pc' := 240) d2_239 Ar250 (inb_of Sz250 bb250) ge_ad89_0 rfl ?_
        intro h250 W250
        have sz252 : n0 ≤ h250.size := (by rw [W250.size]; exact sz103)
        obtain ⟨C251, hC251⟩ : ∃ z : List Int32, z = (C98.set g2.toNatClampNeg ((C98.getD g2.toNatClampNeg 0) + (1 : Int32))) := ⟨_, rfl⟩
        have VC251 : Arv Z h250 ad89_0 kc89_0 .int (4 : Int32) (C251.map Value.int) (.int (0 : Int32)) := by rw [hC251, List.map_set]; exact Arv.set Ar250 qk250 Sz250 Mn250 Hv250 Gf250 rfl W250 g2.toNatClampNeg rfl (own_ln (z := (4 : Int32)) lC98 bb250 (by decide))
        have lC251 : C251.length = 4 := by rw [hC251, List.length_set]; exact lC98
        show GoB2 l Z n0 (Q2 Z o q0 q1 kg ks g0 g1 g2 g3 s0 s1 s2 s3 h0) h250 4 17 240 #[.val (.ref o), .val (.ref q0), .val (.ref q1), .val (.int (3 : Int32)), .val (.ref ad3), .val (.ref ad67), .val (.ref am), .val (.ref ad89_0), .val (.int (2 : Int32))] [(.int (C98.getD g2.toNatClampNeg 0)), (.ref am)]
        refine OwnW.iload (pc' := 242) d2_240 rfl rfl ?_
        have F253 := (VC102.other W250 (Nat.ne_of_lt lt_am_ad89_0))
        obtain ⟨cl254, Ar254, qk254, Sz254, Mn254, Hv254, Gf254⟩ := id F253
        have bb254 := (own_mb5 hg0 hg1 hg2 hg3 hC15 hC18 hC33 hC48 hC63 hC68 hC73 hC79 hC85 hC0 hC95 hC98 hC102 hC251 htt hc223 hc223_1 hc223_2)
        refine OwnW.stI (pc' := 243) d2_242 Ar254 (inb_of Sz254 bb254) ge_am rfl ?_
        intro h254 W254
        have sz256 : n0 ≤ h254.size := (by rw [W254.size]; exact sz252)
        obtain ⟨C255, hC255⟩ : ∃ z : List Int32, z = (C102.set (C98.getD g2.toNatClampNeg 0).toNatClampNeg (2 : Int32)) := ⟨_, rfl⟩
        have VC255 : Arv Z h254 am km .int tt (C255.map Value.int) (.int (0 : Int32)) := by rw [hC255, List.map_set]; exact Arv.set Ar254 qk254 Sz254 Mn254 Hv254 Gf254 rfl W254 (C98.getD g2.toNatClampNeg 0).toNatClampNeg rfl (own_ln (z := tt) lC102 bb254 rfl)
        have lC255 : C255.length = tt.toNatClampNeg := by rw [hC255, List.length_set]; exact lC102
        show GoB2 l Z n0 (Q2 Z o q0 q1 kg ks g0 g1 g2 g3 s0 s1 s2 s3 h0) h254 4 17 243 #[.val (.ref o), .val (.ref q0), .val (.ref q1), .val (.int (3 : Int32)), .val (.ref ad3), .val (.ref ad67), .val (.ref am), .val (.ref ad89_0), .val (.int (2 : Int32))] []
        refine OwnW.iinc (pc' := 246) (L' := #[.val (.ref o), .val (.ref q0), .val (.ref q1), .val (.int (3 : Int32)), .val (.ref ad3), .val (.ref ad67), .val (.ref am), .val (.ref ad89_0), .val (.int (3 : Int32))]) (d := (1 : Int32)) d2_243 rfl rfl rfl rfl ?_
        refine OwnW.goto (pc' := 212) d2_246 (by decide) (by decide) ?_
        refine OwnW.iload (pc' := 214) d2_212 rfl rfl ?_
        refine OwnW.aloadN (pc' := 215) d2_214 rfl (rfl) rfl ?_
        have F257 := ((F104.other W250 (Nat.ne_of_lt lt_q0_ad89_0)).other W254 (Nat.ne_of_lt lt_q0_am))
        obtain ⟨cl258, Ar258, qk258, Sz258, Mn258, Hv258, Gf258⟩ := id F257
        refine OwnW.alen (pc' := 216) (x := (4 : Int32)) d2_215 Ar258 (len_of Sz258 Mn258) rfl ?_
        refine OwnW.icmpN (pc' := 219) d2_216 (tlt (by decide)).2.1 rfl ?_
        refine OwnW.aloadN (pc' := 220) d2_219 rfl (rfl) rfl ?_
        refine OwnW.iload (pc' := 222) d2_220 rfl rfl ?_
        obtain ⟨cl259, Ar259, qk259, Sz259, Mn259, Hv259, Gf259⟩ := id F257
        refine OwnW.iaload (pc' := 223) (v := (.int g3)) d2_222 Ar259 (inb_of Sz259 ⟨by decide, by decide⟩) (Hv259.at (inb_of Sz259 ⟨by decide, by decide⟩) rfl) rfl ?_
        by_cases hc223_3 : (0 : Int32) < g3
        ·
          refine OwnW.ifcN (pc' := 226) d2_223 ((if0 _ _).trans (tlt hc223_3).2.2.2) rfl ?_
          refine OwnW.aload (pc' := 228) d2_226 rfl (rfl) rfl ?_
          refine OwnW.aload (pc' := 230) d2_228 rfl (rfl) rfl ?_
          refine OwnW.aloadN (pc' := 231) d2_230 rfl (rfl) rfl ?_
          refine OwnW.iload (pc' := 233) d2_231 rfl rfl ?_
          obtain ⟨cl260, Ar260, qk260, Sz260, Mn260, Hv260, Gf260⟩ := id F257
          refine OwnW.iaload (pc' := 234) (v := (.int g3)) d2_233 Ar260 (inb_of Sz260 ⟨by decide, by decide⟩) (Hv260.at (inb_of Sz260 ⟨by decide, by decide⟩) rfl) rfl ?_
          refine OwnW.dup2 (pc' := 235) d2_234 rfl rfl rfl ?_
          have F261 := (VC251.other W254 (Ne.symm (Nat.ne_of_lt lt_am_ad89_0)))
          obtain ⟨cl262, Ar262, qk262, Sz262, Mn262, Hv262, Gf262⟩ := id F261
          refine OwnW.iaload (pc' := 236) (v := .int (C251.getD g3.toNatClampNeg 0)) d2_235 Ar262 (inb_of Sz262 (own_bd hg3)) (Hv262.at (inb_of Sz262 (own_bd hg3)) (own_gd C251 g3.toNatClampNeg)) rfl ?_
          show GoB2 l Z n0 (Q2 Z o q0 q1 kg ks g0 g1 g2 g3 s0 s1 s2 s3 h0) h254 4 17 236 #[.val (.ref o), .val (.ref q0), .val (.ref q1), .val (.int (3 : Int32)), .val (.ref ad3), .val (.ref ad67), .val (.ref am), .val (.ref ad89_0), .val (.int (3 : Int32))] [(.int (C251.getD g3.toNatClampNeg 0)), (.int g3), (.ref ad89_0), (.ref am)]
          refine OwnW.dupX2 (pc' := 237) d2_236 rfl ?_
          refine OwnW.iconst (pc' := 238) (v := (1 : Int32)) d2_237 rfl rfl ?_
          refine OwnW.iadd (pc' := 239) d2_238 rfl ?_
          obtain ⟨cl263, Ar263, qk263, Sz263, Mn263, Hv263, Gf263⟩ := id F261
          have bb263 := (own_bd hg3)
          refine OwnW.stI (pc' := 240) d2_239 Ar263 (inb_of Sz263 bb263) ge_ad89_0 rfl ?_
          intro h263 W263
          have sz265 : n0 ≤ h263.size := (by rw [W263.size]; exact sz256)
          obtain ⟨C264, hC264⟩ : ∃ z : List Int32, z = (C251.set g3.toNatClampNeg ((C251.getD g3.toNatClampNeg 0) + (1 : Int32))) := ⟨_, rfl⟩
          have VC264 : Arv Z h263 ad89_0 kc89_0 .int (4 : Int32) (C264.map Value.int) (.int (0 : Int32)) := by rw [hC264, List.map_set]; exact Arv.set Ar263 qk263 Sz263 Mn263 Hv263 Gf263 rfl W263 g3.toNatClampNeg rfl (own_ln (z := (4 : Int32)) lC251 bb263 (by decide))
          have lC264 : C264.length = 4 := by rw [hC264, List.length_set]; exact lC251
          show GoB2 l Z n0 (Q2 Z o q0 q1 kg ks g0 g1 g2 g3 s0 s1 s2 s3 h0) h263 4 17 240 #[.val (.ref o), .val (.ref q0), .val (.ref q1), .val (.int (3 : Int32)), .val (.ref ad3), .val (.ref ad67), .val (.ref am), .val (.ref ad89_0), .val (.int (3 : Int32))] [(.int (C251.getD g3.toNatClampNeg 0)), (.ref am)]
          refine OwnW.iload (pc' := 242) d2_240 rfl rfl ?_
          have F266 := (VC255.other W263 (Nat.ne_of_lt lt_am_ad89_0))
          obtain ⟨cl267, Ar267, qk267, Sz267, Mn267, Hv267, Gf267⟩ := id F266
          have bb267 := (own_mb6 hg0 hg1 hg2 hg3 hC15 hC18 hC33 hC48 hC63 hC68 hC73 hC79 hC85 hC0 hC95 hC98 hC102 hC251 hC255 hC264 htt hc223 hc223_1 hc223_2 hc223_3)
          refine OwnW.stI (pc' := 243) d2_242 Ar267 (inb_of Sz267 bb267) ge_am rfl ?_
          intro h267 W267
          have sz269 : n0 ≤ h267.size := (by rw [W267.size]; exact sz265)
          obtain ⟨C268, hC268⟩ : ∃ z : List Int32, z = (C255.set (C251.getD g3.toNatClampNeg 0).toNatClampNeg (3 : Int32)) := ⟨_, rfl⟩
          have VC268 : Arv Z h267 am km .int tt (C268.map Value.int) (.int (0 : Int32)) := by rw [hC268, List.map_set]; exact Arv.set Ar267 qk267 Sz267 Mn267 Hv267 Gf267 rfl W267 (C251.getD g3.toNatClampNeg 0).toNatClampNeg rfl (own_ln (z := tt) lC255 bb267 rfl)
          have lC268 : C268.length = tt.toNatClampNeg := by rw [hC268, List.length_set]; exact lC255
          show GoB2 l Z n0 (Q2 Z o q0 q1 kg ks g0 g1 g2 g3 s0 s1 s2 s3 h0) h267 4 17 243 #[.val (.ref o), .val (.ref q0), .val (.ref q1), .val (.int (3 : Int32)), .val (.ref ad3), .val (.ref ad67), .val (.ref am), .val (.ref ad89_0), .val (.int (3 : Int32))] []
          refine OwnW.iinc (pc' := 246) (L' := #[.val (.ref o), .val (.ref q0), .val (.ref q1), .val (.int (3 : Int32)), .val (.ref ad3), .val (.ref ad67), .val (.ref am), .val (.ref ad89_0), .val (.int (4 : Int32))]) (d := (1 : Int32)) d2_243 rfl rfl rfl rfl ?_
          refine OwnW.goto (pc' := 212) d2_246 (by decide) (by decide) ?_
          refine OwnW.iload (pc' := 214) d2_212 rfl rfl ?_
          refine OwnW.aloadN (pc' := 215) d2_214 rfl (rfl) rfl ?_
          have F270 := ((F257.other W263 (Nat.ne_of_lt lt_q0_ad89_0)).other W267 (Nat.ne_of_lt lt_q0_am))
          obtain ⟨cl271, Ar271, qk271, Sz271, Mn271, Hv271, Gf271⟩ := id F270
          refine OwnW.alen (pc' := 216) (x := (4 : Int32)) d2_215 Ar271 (len_of Sz271 Mn271) rfl ?_
          refine OwnW.icmpY (pc' := 249) d2_216 (flt (by decide)).2.1 (by decide) (by decide) ?_
          have he := own_end4 hg0 hg1 hg2 hg3 hC15 hC18 hC33 hC48 hC63 hC68 hC73 hC79 hC85 hC0 hC95 hC98 hC102 hC251 hC255 hC264 hC268 htt hc223 hc223_1 hc223_2 hc223_3
          have F272 := (((((((F88.keep K89 nin0).other W97 (Nat.ne_of_lt lt_ad67_ad89_0)).other W101 (Nat.ne_of_lt lt_ad67_am)).other W250 (Nat.ne_of_lt lt_ad67_ad89_0)).other W254 (Nat.ne_of_lt lt_ad67_am)).other W263 (Nat.ne_of_lt lt_ad67_ad89_0)).other W267 (Nat.ne_of_lt lt_ad67_am))
          have VE1 : Arv Z h267 ad67 kc67 .int (5 : Int32) ((own_SL g0 g1 g2 g3).map Value.int) (.int (0 : Int32)) := by rw [← he.1]; exact F272
          have VE2 : Arv Z h267 am km .int (own_T g0 g1 g2 g3) ((own_ML g0 g1 g2 g3).map Value.int) (.int (0 : Int32)) := by rw [← he.2.1, ← ht2.2.2]; exact VC268
          refine OwnW.aloadN (pc' := 250) d2_249 rfl (rfl) rfl ?_
          refine OwnW.aloadN (pc' := 251) d2_250 rfl (rfl) rfl ?_
          have F274 := (((((((((((((((((F_groups.ext E3).other W17 (Or.inl (Nat.ne_of_lt lt_o_ad3))).other W32 (Or.inl (Nat.ne_of_lt lt_o_ad3))).other W47 (Or.inl (Nat.ne_of_lt lt_o_ad3))).other W62 (Or.inl (Nat.ne_of_lt lt_o_ad3))).ext E67).other W72 (Or.inl (Nat.ne_of_lt lt_o_ad67))).other W78 (Or.inl (Nat.ne_of_lt lt_o_ad67))).other W84 (Or.inl (Nat.ne_of_lt lt_o_ad67))).ext Em).keep K89 nin0).other W97 (Or.inl (Nat.ne_of_lt lt_o_ad89_0))).other W101 (Or.inl (Nat.ne_of_lt lt_o_am))).other W250 (Or.inl (Nat.ne_of_lt lt_o_ad89_0))).other W254 (Or.inl (Nat.ne_of_lt lt_o_am))).other W263 (Or.inl (Nat.ne_of_lt lt_o_ad89_0))).other W267 (Or.inl (Nat.ne_of_lt lt_o_am)))
          have F275 := (((((((((((((((((E_o.ext E3).wr W17).wr W32).wr W47).wr W62).ext E67).wr W72).wr W78).wr W84).ext Em).keep K89).wr W97).wr W101).wr W250).wr W254).wr W263).wr W267)
          refine OwnW.putF (a0 := a0) (pc' := 254) d2_251 (host := "") (Or.inl (hw _ (List.mem_of_getElem? (i := 27) rfl))) Via.refl F274 F275 (Or.inr ⟨(hw _ (List.mem_of_getElem? (i := 28) rfl)), rfl, rfl⟩) (hw _ (List.mem_of_getElem? (i := 7) rfl)) (ty := (.array .int)) (by decide) rfl rfl g_o rfl ?_
          intro h273 W273
          have sz276 : n0 ≤ h273.size := (by rw [W273.size]; exact sz269)
          have F277 := F274.same W273
          refine OwnW.aloadN (pc' := 255) d2_254 rfl (rfl) rfl ?_
          refine OwnW.aloadN (pc' := 256) d2_255 rfl (rfl) rfl ?_
          have F279 := ((((((((((((((((((F_shares.ext E3).other W17 (Or.inl (Nat.ne_of_lt lt_o_ad3))).other W32 (Or.inl (Nat.ne_of_lt lt_o_ad3))).other W47 (Or.inl (Nat.ne_of_lt lt_o_ad3))).other W62 (Or.inl (Nat.ne_of_lt lt_o_ad3))).ext E67).other W72 (Or.inl (Nat.ne_of_lt lt_o_ad67))).other W78 (Or.inl (Nat.ne_of_lt lt_o_ad67))).other W84 (Or.inl (Nat.ne_of_lt lt_o_ad67))).ext Em).keep K89 nin0).other W97 (Or.inl (Nat.ne_of_lt lt_o_ad89_0))).other W101 (Or.inl (Nat.ne_of_lt lt_o_am))).other W250 (Or.inl (Nat.ne_of_lt lt_o_ad89_0))).other W254 (Or.inl (Nat.ne_of_lt lt_o_am))).other W263 (Or.inl (Nat.ne_of_lt lt_o_ad89_0))).other W267 (Or.inl (Nat.ne_of_lt lt_o_am))).other W273 (Or.inr (slot_ne (a0 := a0) (C := "com/example/sieve_for_links/sieveforlinks/VirtualLinks") (Or.inr (hw _ (List.mem_of_getElem? (i := 30) rfl))) (Or.inr (hw _ (List.mem_of_getElem? (i := 28) rfl))) (by decide) (t := (.array .double)) (t' := (.array .int)) (by decide) (by decide))))
          have F280 := (F275.wr W273)
          refine OwnW.putF (a0 := a0) (pc' := 259) d2_256 (host := "") (Or.inl (hw _ (List.mem_of_getElem? (i := 29) rfl))) Via.refl F279 F280 (Or.inr ⟨(hw _ (List.mem_of_getElem? (i := 30) rfl)), rfl, rfl⟩) (hw _ (List.mem_of_getElem? (i := 7) rfl)) (ty := (.array .double)) (by decide) rfl rfl g_o rfl ?_
          intro h278 W278
          have sz281 : n0 ≤ h278.size := (by rw [W278.size]; exact sz276)
          have F282 := F279.same W278
          refine OwnW.aloadN (pc' := 260) d2_259 rfl (rfl) rfl ?_
          refine OwnW.aload (pc' := 262) d2_260 rfl (rfl) rfl ?_
          have F284 := (((((((((((((((((((F_members.ext E3).other W17 (Or.inl (Nat.ne_of_lt lt_o_ad3))).other W32 (Or.inl (Nat.ne_of_lt lt_o_ad3))).other W47 (Or.inl (Nat.ne_of_lt lt_o_ad3))).other W62 (Or.inl (Nat.ne_of_lt lt_o_ad3))).ext E67).other W72 (Or.inl (Nat.ne_of_lt lt_o_ad67))).other W78 (Or.inl (Nat.ne_of_lt lt_o_ad67))).other W84 (Or.inl (Nat.ne_of_lt lt_o_ad67))).ext Em).keep K89 nin0).other W97 (Or.inl (Nat.ne_of_lt lt_o_ad89_0))).other W101 (Or.inl (Nat.ne_of_lt lt_o_am))).other W250 (Or.inl (Nat.ne_of_lt lt_o_ad89_0))).other W254 (Or.inl (Nat.ne_of_lt lt_o_am))).other W263 (Or.inl (Nat.ne_of_lt lt_o_ad89_0))).other W267 (Or.inl (Nat.ne_of_lt lt_o_am))).other W273 (Or.inr (slot_ne (a0 := a0) (C := "com/example/sieve_for_links/sieveforlinks/VirtualLinks") (Or.inr (hw _ (List.mem_of_getElem? (i := 32) rfl))) (Or.inr (hw _ (List.mem_of_getElem? (i := 28) rfl))) (by decide) (t := (.array .int)) (t' := (.array .int)) (by decide) (by decide)))).other W278 (Or.inr (slot_ne (a0 := a0) (C := "com/example/sieve_for_links/sieveforlinks/VirtualLinks") (Or.inr (hw _ (List.mem_of_getElem? (i := 32) rfl))) (Or.inr (hw _ (List.mem_of_getElem? (i := 30) rfl))) (by decide) (t := (.array .int)) (t' := (.array .double)) (by decide) (by decide))))
          have F285 := (F280.wr W278)
          refine OwnW.putF (a0 := a0) (pc' := 265) d2_262 (host := "") (Or.inl (hw _ (List.mem_of_getElem? (i := 31) rfl))) Via.refl F284 F285 (Or.inr ⟨(hw _ (List.mem_of_getElem? (i := 32) rfl)), rfl, rfl⟩) (hw _ (List.mem_of_getElem? (i := 7) rfl)) (ty := (.array .int)) (by decide) rfl rfl g_o rfl ?_
          intro h283 W283
          have sz286 : n0 ≤ h283.size := (by rw [W283.size]; exact sz281)
          have F287 := F284.same W283
          refine OwnW.aloadN (pc' := 266) d2_265 rfl (rfl) rfl ?_
          refine OwnW.aload (pc' := 268) d2_266 rfl (rfl) rfl ?_
          have F289 := ((((((((((((((((((((F_memberStarts.ext E3).other W17 (Or.inl (Nat.ne_of_lt lt_o_ad3))).other W32 (Or.inl (Nat.ne_of_lt lt_o_ad3))).other W47 (Or.inl (Nat.ne_of_lt lt_o_ad3))).other W62 (Or.inl (Nat.ne_of_lt lt_o_ad3))).ext E67).other W72 (Or.inl (Nat.ne_of_lt lt_o_ad67))).other W78 (Or.inl (Nat.ne_of_lt lt_o_ad67))).other W84 (Or.inl (Nat.ne_of_lt lt_o_ad67))).ext Em).keep K89 nin0).other W97 (Or.inl (Nat.ne_of_lt lt_o_ad89_0))).other W101 (Or.inl (Nat.ne_of_lt lt_o_am))).other W250 (Or.inl (Nat.ne_of_lt lt_o_ad89_0))).other W254 (Or.inl (Nat.ne_of_lt lt_o_am))).other W263 (Or.inl (Nat.ne_of_lt lt_o_ad89_0))).other W267 (Or.inl (Nat.ne_of_lt lt_o_am))).other W273 (Or.inr (slot_ne (a0 := a0) (C := "com/example/sieve_for_links/sieveforlinks/VirtualLinks") (Or.inr (hw _ (List.mem_of_getElem? (i := 34) rfl))) (Or.inr (hw _ (List.mem_of_getElem? (i := 28) rfl))) (by decide) (t := (.array .int)) (t' := (.array .int)) (by decide) (by decide)))).other W278 (Or.inr (slot_ne (a0 := a0) (C := "com/example/sieve_for_links/sieveforlinks/VirtualLinks") (Or.inr (hw _ (List.mem_of_getElem? (i := 34) rfl))) (Or.inr (hw _ (List.mem_of_getElem? (i := 30) rfl))) (by decide) (t := (.array .int)) (t' := (.array .double)) (by decide) (by decide)))).other W283 (Or.inr (slot_ne (a0 := a0) (C := "com/example/sieve_for_links/sieveforlinks/VirtualLinks") (Or.inr (hw _ (List.mem_of_getElem? (i := 34) rfl))) (Or.inr (hw _ (List.mem_of_getElem? (i := 32) rfl))) (by decide) (t := (.array .int)) (t' := (.array .int)) (by decide) (by decide))))
          have F290 := (F285.wr W283)
          refine OwnW.putF (a0 := a0) (pc' := 271) d2_268 (host := "") (Or.inl (hw _ (List.mem_of_getElem? (i := 33) rfl))) Via.refl F289 F290 (Or.inr ⟨(hw _ (List.mem_of_getElem? (i := 34) rfl)), rfl, rfl⟩) (hw _ (List.mem_of_getElem? (i := 7) rfl)) (ty := (.array .int)) (by decide) rfl rfl g_o rfl ?_
          intro h288 W288
          have sz291 : n0 ≤ h288.size := (by rw [W288.size]; exact sz286)
          have F292 := F289.same W288
          exact OwnW.ret0 d2_271 rfl (by decide) (by decide) (⟨ad67, am, kc67, km, rfl, ((((((((((((((((((((((Keep.refl h0 [o]).ext E3).wr W17 (Or.inr (Nat.le_trans (Nat.le_refl _) (Nat.le_of_eq gq3.symm)))).wr W32 (Or.inr (Nat.le_trans (Nat.le_refl _) (Nat.le_of_eq gq3.symm)))).wr W47 (Or.inr (Nat.le_trans (Nat.le_refl _) (Nat.le_of_eq gq3.symm)))).wr W62 (Or.inr (Nat.le_trans (Nat.le_refl _) (Nat.le_of_eq gq3.symm)))).ext E67).wr W72 (Or.inr (Nat.le_trans (Nat.le_trans (Nat.le_trans (Nat.le_trans (Nat.le_trans (Nat.le_trans (Nat.le_refl _) E3.1) (Nat.le_of_eq W17.size.symm)) (Nat.le_of_eq W32.size.symm)) (Nat.le_of_eq W47.size.symm)) (Nat.le_of_eq W62.size.symm)) (Nat.le_of_eq gq67.symm)))).wr W78 (Or.inr (Nat.le_trans (Nat.le_trans (Nat.le_trans (Nat.le_trans (Nat.le_trans (Nat.le_trans (Nat.le_refl _) E3.1) (Nat.le_of_eq W17.size.symm)) (Nat.le_of_eq W32.size.symm)) (Nat.le_of_eq W47.size.symm)) (Nat.le_of_eq W62.size.symm)) (Nat.le_of_eq gq67.symm)))).wr W84 (Or.inr (Nat.le_trans (Nat.le_trans (Nat.le_trans (Nat.le_trans (Nat.le_trans (Nat.le_trans (Nat.le_refl _) E3.1) (Nat.le_of_eq W17.size.symm)) (Nat.le_of_eq W32.size.symm)) (Nat.le_of_eq W47.size.symm)) (Nat.le_of_eq W62.size.symm)) (Nat.le_of_eq gq67.symm)))).ext Em).trans K89 all0).wr W97 (Or.inr (Nat.le_trans (Nat.le_trans (Nat.le_trans (Nat.le_trans (Nat.le_trans (Nat.le_trans (Nat.le_trans (Nat.le_trans (Nat.le_trans (Nat.le_trans (Nat.le_trans (Nat.le_refl _) E3.1) (Nat.le_of_eq W17.size.symm)) (Nat.le_of_eq W32.size.symm)) (Nat.le_of_eq W47.size.symm)) (Nat.le_of_eq W62.size.symm)) E67.1) (Nat.le_of_eq W72.size.symm)) (Nat.le_of_eq W78.size.symm)) (Nat.le_of_eq W84.size.symm)) Em.1) gl89_0))).wr W101 (Or.inr (Nat.le_trans (Nat.le_trans (Nat.le_trans (Nat.le_trans (Nat.le_trans (Nat.le_trans (Nat.le_trans (Nat.le_trans (Nat.le_trans (Nat.le_trans (Nat.le_refl _) E3.1) (Nat.le_of_eq W17.size.symm)) (Nat.le_of_eq W32.size.symm)) (Nat.le_of_eq W47.size.symm)) (Nat.le_of_eq W62.size.symm)) E67.1) (Nat.le_of_eq W72.size.symm)) (Nat.le_of_eq W78.size.symm)) (Nat.le_of_eq W84.size.symm)) (Nat.le_of_eq gm.symm)))).wr W250 (Or.inr (Nat.le_trans (Nat.le_trans (Nat.le_trans (Nat.le_trans (Nat.le_trans (Nat.le_trans (Nat.le_trans (Nat.le_trans (Nat.le_trans (Nat.le_trans (Nat.le_trans (Nat.le_refl _) E3.1) (Nat.le_of_eq W17.size.symm)) (Nat.le_of_eq W32.size.symm)) (Nat.le_of_eq W47.size.symm)) (Nat.le_of_eq W62.size.symm)) E67.1) (Nat.le_of_eq W72.size.symm)) (Nat.le_of_eq W78.size.symm)) (Nat.le_of_eq W84.size.symm)) Em.1) gl89_0))).wr W254 (Or.inr (Nat.le_trans (Nat.le_trans (Nat.le_trans (Nat.le_trans (Nat.le_trans (Nat.le_trans (Nat.le_trans (Nat.le_trans (Nat.le_trans (Nat.le_trans (Nat.le_refl _) E3.1) (Nat.le_of_eq W17.size.symm)) (Nat.le_of_eq W32.size.symm)) (Nat.le_of_eq W47.size.symm)) (Nat.le_of_eq W62.size.symm)) E67.1) (Nat.le_of_eq W72.size.symm)) (Nat.le_of_eq W78.size.symm)) (Nat.le_of_eq W84.size.symm)) (Nat.le_of_eq gm.symm)))).wr W263 (Or.inr (Nat.le_trans (Nat.le_trans (Nat.le_trans (Nat.le_trans (Nat.le_trans (Nat.le_trans (Nat.le_trans (Nat.le_trans (Nat.le_trans (Nat.le_trans (Nat.le_trans (Nat.le_refl _) E3.1) (Nat.le_of_eq W17.size.symm)) (Nat.le_of_eq W32.size.symm)) (Nat.le_of_eq W47.size.symm)) (Nat.le_of_eq W62.size.symm)) E67.1) (Nat.le_of_eq W72.size.symm)) (Nat.le_of_eq W78.size.symm)) (Nat.le_of_eq W84.size.symm)) Em.1) gl89_0))).wr W267 (Or.inr (Nat.le_trans (Nat.le_trans (Nat.le_trans (Nat.le_trans (Nat.le_trans (Nat.le_trans (Nat.le_trans (Nat.le_trans (Nat.le_trans (Nat.le_trans (Nat.le_refl _) E3.1) (Nat.le_of_eq W17.size.symm)) (Nat.le_of_eq W32.size.symm)) (Nat.le_of_eq W47.size.symm)) (Nat.le_of_eq W62.size.symm)) E67.1) (Nat.le_of_eq W72.size.symm)) (Nat.le_of_eq W78.size.symm)) (Nat.le_of_eq W84.size.symm)) (Nat.le_of_eq gm.symm)))).wr W273 (Or.inl (List.mem_of_getElem? (i := 0) rfl))).wr W278 (Or.inl (List.mem_of_getElem? (i := 0) rfl))).wr W283 (Or.inl (List.mem_of_getElem? (i := 0) rfl))).wr W288 (Or.inl (List.mem_of_getElem? (i := 0) rfl))), (Nat.le_trans (Nat.le_trans (Nat.le_trans (Nat.le_trans (Nat.le_trans (Nat.le_trans (Nat.le_refl _) E3.1) (Nat.le_of_eq W17.size.symm)) (Nat.le_of_eq W32.size.symm)) (Nat.le_of_eq W47.size.symm)) (Nat.le_of_eq W62.size.symm)) (Nat.le_of_eq gq67.symm)), (Nat.le_trans (Nat.le_trans (Nat.le_trans (Nat.le_trans (Nat.le_trans (Nat.le_trans (Nat.le_trans (Nat.le_trans (Nat.le_trans (Nat.le_trans (Nat.le_refl _) E3.1) (Nat.le_of_eq W17.size.symm)) (Nat.le_of_eq W32.size.symm)) (Nat.le_of_eq W47.size.symm)) (Nat.le_of_eq W62.size.symm)) E67.1) (Nat.le_of_eq W72.size.symm)) (Nat.le_of_eq W78.size.symm)) (Nat.le_of_eq W84.size.symm)) (Nat.le_of_eq gm.symm)), (Nat.ne_of_lt lt_ad67_am), (F290.wr W288), ((F282.other W283 (Or.inr (slot_ne (a0 := a0) (C := "com/example/sieve_for_links/sieveforlinks/VirtualLinks") (Or.inr (hw _ (List.mem_of_getElem? (i := 30) rfl))) (Or.inr (hw _ (List.mem_of_getElem? (i := 32) rfl))) (by decide) (t := (.array .double)) (t' := (.array .int)) (by decide) (by decide)))).other W288 (Or.inr (slot_ne (a0 := a0) (C := "com/example/sieve_for_links/sieveforlinks/VirtualLinks") (Or.inr (hw _ (List.mem_of_getElem? (i := 30) rfl))) (Or.inr (hw _ (List.mem_of_getElem? (i := 34) rfl))) (by decide) (t := (.array .double)) (t' := (.array .int)) (by decide) (by decide)))), (F287.other W288 (Or.inr (slot_ne (a0 := a0) (C := "com/example/sieve_for_links/sieveforlinks/VirtualLinks") (Or.inr (hw _ (List.mem_of_getElem? (i := 32) rfl))) (Or.inr (hw _ (List.mem_of_getElem? (i := 34) rfl))) (by decide) (t := (.array .int)) (t' := (.array .int)) (by decide) (by decide)))), F292, ((((VE1.other W273 (Ne.symm (Nat.ne_of_lt lt_o_ad67))).other W278 (Ne.symm (Nat.ne_of_lt lt_o_ad67))).other W283 (Ne.symm (Nat.ne_of_lt lt_o_ad67))).other W288 (Ne.symm (Nat.ne_of_lt lt_o_ad67))), ((((VE2.other W273 (Ne.symm (Nat.ne_of_lt lt_o_am))).other W278 (Ne.symm (Nat.ne_of_lt lt_o_am))).other W283 (Ne.symm (Nat.ne_of_lt lt_o_am))).other W288 (Ne.symm (Nat.ne_of_lt lt_o_am)))⟩)
        ·
          refine OwnW.ifcY (pc' := 243) d2_223 ((if0 _ _).trans (flt hc223_3).2.2.2) (by decide) (by decide) ?_
          refine OwnW.iinc (pc' := 246) (L' := #[.val (.ref o), .val (.ref q0), .val (.ref q1), .val (.int (3 : Int32)), .val (.ref ad3), .val (.ref ad67), .val (.ref am), .val (.ref ad89_0), .val (.int (4 : Int32))]) (d := (1 : Int32)) d2_243 rfl rfl rfl rfl ?_
          refine OwnW.goto (pc' := 212) d2_246 (by decide) (by decide) ?_
          refine OwnW.iload (pc' := 214) d2_212 rfl rfl ?_
          refine OwnW.aloadN (pc' := 215) d2_214 rfl (rfl) rfl ?_
          obtain ⟨cl293, Ar293, qk293, Sz293, Mn293, Hv293, Gf293⟩ := id F257
          refine OwnW.alen (pc' := 216) (x := (4 : Int32)) d2_215 Ar293 (len_of Sz293 Mn293) rfl ?_
          refine OwnW.icmpY (pc' := 249) d2_216 (flt (by decide)).2.1 (by decide) (by decide) ?_
          have he := own_end5 hg0 hg1 hg2 hg3 hC15 hC18 hC33 hC48 hC63 hC68 hC73 hC79 hC85 hC0 hC95 hC98 hC102 hC251 hC255 htt hc223 hc223_1 hc223_2 hc223_3
          have F294 := (((((F88.keep K89 nin0).other W97 (Nat.ne_of_lt lt_ad67_ad89_0)).other W101 (Nat.ne_of_lt lt_ad67_am)).other W250 (Nat.ne_of_lt lt_ad67_ad89_0)).other W254 (Nat.ne_of_lt lt_ad67_am))
          have VE1 : Arv Z h254 ad67 kc67 .int (5 : Int32) ((own_SL g0 g1 g2 g3).map Value.int) (.int (0 : Int32)) := by rw [← he.1]; exact F294
          have VE2 : Arv Z h254 am km .int (own_T g0 g1 g2 g3) ((own_ML g0 g1 g2 g3).map Value.int) (.int (0 : Int32)) := by rw [← he.2.1, ← ht2.2.2]; exact VC255
          refine OwnW.aloadN (pc' := 250) d2_249 rfl (rfl) rfl ?_
          refine OwnW.aloadN (pc' := 251) d2_250 rfl (rfl) rfl ?_
          have F296 := (((((((((((((((F_groups.ext E3).other W17 (Or.inl (Nat.ne_of_lt lt_o_ad3))).other W32 (Or.inl (Nat.ne_of_lt lt_o_ad3))).other W47 (Or.inl (Nat.ne_of_lt lt_o_ad3))).other W62 (Or.inl (Nat.ne_of_lt lt_o_ad3))).ext E67).other W72 (Or.inl (Nat.ne_of_lt lt_o_ad67))).other W78 (Or.inl (Nat.ne_of_lt lt_o_ad67))).other W84 (Or.inl (Nat.ne_of_lt lt_o_ad67))).ext Em).keep K89 nin0).other W97 (Or.inl (Nat.ne_of_lt lt_o_ad89_0))).other W101 (Or.inl (Nat.ne_of_lt lt_o_am))).other W250 (Or.inl (Nat.ne_of_lt lt_o_ad89_0))).other W254 (Or.inl (Nat.ne_of_lt lt_o_am)))
          have F297 := (((((((((((((((E_o.ext E3).wr W17).wr W32).wr W47).wr W62).ext E67).wr W72).wr W78).wr W84).ext Em).keep K89).wr W97).wr W101).wr W250).wr W254)
          refine OwnW.putF (a0 := a0) (pc' := 254) d2_251 (host := "") (Or.inl (hw _ (List.mem_of_getElem? (i := 27) rfl))) Via.refl F296 F297 (Or.inr ⟨(hw _ (List.mem_of_getElem? (i := 28) rfl)), rfl, rfl⟩) (hw _ (List.mem_of_getElem? (i := 7) rfl)) (ty := (.array .int)) (by decide) rfl rfl g_o rfl ?_
          intro h295 W295
          have sz298 : n0 ≤ h295.size := (by rw [W295.size]; exact sz256)
          have F299 := F296.same W295
          refine OwnW.aloadN (pc' := 255) d2_254 rfl (rfl) rfl ?_
          refine OwnW.aloadN (pc' := 256) d2_255 rfl (rfl) rfl ?_
          have F301 := ((((((((((((((((F_shares.ext E3).other W17 (Or.inl (Nat.ne_of_lt lt_o_ad3))).other W32 (Or.inl (Nat.ne_of_lt lt_o_ad3))).other W47 (Or.inl (Nat.ne_of_lt lt_o_ad3))).other W62 (Or.inl (Nat.ne_of_lt lt_o_ad3))).ext E67).other W72 (Or.inl (Nat.ne_of_lt lt_o_ad67))).other W78 (Or.inl (Nat.ne_of_lt lt_o_ad67))).other W84 (Or.inl (Nat.ne_of_lt lt_o_ad67))).ext Em).keep K89 nin0).other W97 (Or.inl (Nat.ne_of_lt lt_o_ad89_0))).other W101 (Or.inl (Nat.ne_of_lt lt_o_am))).other W250 (Or.inl (Nat.ne_of_lt lt_o_ad89_0))).other W254 (Or.inl (Nat.ne_of_lt lt_o_am))).other W295 (Or.inr (slot_ne (a0 := a0) (C := "com/example/sieve_for_links/sieveforlinks/VirtualLinks") (Or.inr (hw _ (List.mem_of_getElem? (i := 30) rfl))) (Or.inr (hw _ (List.mem_of_getElem? (i := 28) rfl))) (by decide) (t := (.array .double)) (t' := (.array .int)) (by decide) (by decide))))
          have F302 := (F297.wr W295)
          refine OwnW.putF (a0 := a0) (pc' := 259) d2_256 (host := "") (Or.inl (hw _ (List.mem_of_getElem? (i := 29) rfl))) Via.refl F301 F302 (Or.inr ⟨(hw _ (List.mem_of_getElem? (i := 30) rfl)), rfl, rfl⟩) (hw _ (List.mem_of_getElem? (i := 7) rfl)) (ty := (.array .double)) (by decide) rfl rfl g_o rfl ?_
          intro h300 W300
          have sz303 : n0 ≤ h300.size := (by rw [W300.size]; exact sz298)
          have F304 := F301.same W300
          refine OwnW.aloadN (pc' := 260) d2_259 rfl (rfl) rfl ?_
          refine OwnW.aload (pc' := 262) d2_260 rfl (rfl) rfl ?_
          have F306 := (((((((((((((((((F_members.ext E3).other W17 (Or.inl (Nat.ne_of_lt lt_o_ad3))).other W32 (Or.inl (Nat.ne_of_lt lt_o_ad3))).other W47 (Or.inl (Nat.ne_of_lt lt_o_ad3))).other W62 (Or.inl (Nat.ne_of_lt lt_o_ad3))).ext E67).other W72 (Or.inl (Nat.ne_of_lt lt_o_ad67))).other W78 (Or.inl (Nat.ne_of_lt lt_o_ad67))).other W84 (Or.inl (Nat.ne_of_lt lt_o_ad67))).ext Em).keep K89 nin0).other W97 (Or.inl (Nat.ne_of_lt lt_o_ad89_0))).other W101 (Or.inl (Nat.ne_of_lt lt_o_am))).other W250 (Or.inl (Nat.ne_of_lt lt_o_ad89_0))).other W254 (Or.inl (Nat.ne_of_lt lt_o_am))).other W295 (Or.inr (slot_ne (a0 := a0) (C := "com/example/sieve_for_links/sieveforlinks/VirtualLinks") (Or.inr (hw _ (List.mem_of_getElem? (i := 32) rfl))) (Or.inr (hw _ (List.mem_of_getElem? (i := 28) rfl))) (by decide) (t := (.array .int)) (t' := (.array .int)) (by decide) (by decide)))).other W300 (Or.inr (slot_ne (a0 := a0) (C := "com/example/sieve_for_links/sieveforlinks/VirtualLinks") (Or.inr (hw _ (List.mem_of_getElem? (i := 32) rfl))) (Or.inr (hw _ (List.mem_of_getElem? (i := 30) rfl))) (by decide) (t := (.array .int)) (t' := (.array .double)) (by decide) (by decide))))
          have F307 := (F302.wr W300)
          refine OwnW.putF (a0 := a0) (pc' := 265) d2_262 (host := "") (Or.inl (hw _ (List.mem_of_getElem? (i := 31) rfl))) Via.refl F306 F307 (Or.inr ⟨(hw _ (List.mem_of_getElem? (i := 32) rfl)), rfl, rfl⟩) (hw _ (List.mem_of_getElem? (i := 7) rfl)) (ty := (.array .int)) (by decide) rfl rfl g_o rfl ?_
          intro h305 W305
          have sz308 : n0 ≤ h305.size := (by rw [W305.size]; exact sz303)
          have F309 := F306.same W305
          refine OwnW.aloadN (pc' := 266) d2_265 rfl (rfl) rfl ?_
          refine OwnW.aload (pc' := 268) d2_266 rfl (rfl) rfl ?_
          have F311 := ((((((((((((((((((F_memberStarts.ext E3).other W17 (Or.inl (Nat.ne_of_lt lt_o_ad3))).other W32 (Or.inl (Nat.ne_of_lt lt_o_ad3))).other W47 (Or.inl (Nat.ne_of_lt lt_o_ad3))).other W62 (Or.inl (Nat.ne_of_lt lt_o_ad3))).ext E67).other W72 (Or.inl (Nat.ne_of_lt lt_o_ad67))).other W78 (Or.inl (Nat.ne_of_lt lt_o_ad67))).other W84 (Or.inl (Nat.ne_of_lt lt_o_ad67))).ext Em).keep K89 nin0).other W97 (Or.inl (Nat.ne_of_lt lt_o_ad89_0))).other W101 (Or.inl (Nat.ne_of_lt lt_o_am))).other W250 (Or.inl (Nat.ne_of_lt lt_o_ad89_0))).other W254 (Or.inl (Nat.ne_of_lt lt_o_am))).other W295 (Or.inr (slot_ne (a0 := a0) (C := "com/example/sieve_for_links/sieveforlinks/VirtualLinks") (Or.inr (hw _ (List.mem_of_getElem? (i := 34) rfl))) (Or.inr (hw _ (List.mem_of_getElem? (i := 28) rfl))) (by decide) (t := (.array .int)) (t' := (.array .int)) (by decide) (by decide)))).other W300 (Or.inr (slot_ne (a0 := a0) (C := "com/example/sieve_for_links/sieveforlinks/VirtualLinks") (Or.inr (hw _ (List.mem_of_getElem? (i := 34) rfl))) (Or.inr (hw _ (List.mem_of_getElem? (i := 30) rfl))) (by decide) (t := (.array .int)) (t' := (.array .double)) (by decide) (by decide)))).other W305 (Or.inr (slot_ne (a0 := a0) (C := "com/example/sieve_for_links/sieveforlinks/VirtualLinks") (Or.inr (hw _ (List.mem_of_getElem? (i := 34) rfl))) (Or.inr (hw _ (List.mem_of_getElem? (i := 32) rfl))) (by decide) (t := (.array .int)) (t' := (.array .int)) (by decide) (by decide))))
          have F312 := (F307.wr W305)
          refine OwnW.putF (a0 := a0) (pc' := 271) d2_268 (host := "") (Or.inl (hw _ (List.mem_of_getElem? (i := 33) rfl))) Via.refl F311 F312 (Or.inr ⟨(hw _ (List.mem_of_getElem? (i := 34) rfl)), rfl, rfl⟩) (hw _ (List.mem_of_getElem? (i := 7) rfl)) (ty := (.array .int)) (by decide) rfl rfl g_o rfl ?_
          intro h310 W310
          have sz313 : n0 ≤ h310.size := (by rw [W310.size]; exact sz308)
          have F314 := F311.same W310
          exact OwnW.ret0 d2_271 rfl (by decide) (by decide) (⟨ad67, am, kc67, km, rfl, ((((((((((((((((((((Keep.refl h0 [o]).ext E3).wr W17 (Or.inr (Nat.le_trans (Nat.le_refl _) (Nat.le_of_eq gq3.symm)))).wr W32 (Or.inr (Nat.le_trans (Nat.le_refl _) (Nat.le_of_eq gq3.symm)))).wr W47 (Or.inr (Nat.le_trans (Nat.le_refl _) (Nat.le_of_eq gq3.symm)))).wr W62 (Or.inr (Nat.le_trans (Nat.le_refl _) (Nat.le_of_eq gq3.symm)))).ext E67).wr W72 (Or.inr (Nat.le_trans (Nat.le_trans (Nat.le_trans (Nat.le_trans (Nat.le_trans (Nat.le_trans (Nat.le_refl _) E3.1) (Nat.le_of_eq W17.size.symm)) (Nat.le_of_eq W32.size.symm)) (Nat.le_of_eq W47.size.symm)) (Nat.le_of_eq W62.size.symm)) (Nat.le_of_eq gq67.symm)))).wr W78 (Or.inr (Nat.le_trans (Nat.le_trans (Nat.le_trans (Nat.le_trans (Nat.le_trans (Nat.le_trans (Nat.le_refl _) E3.1) (Nat.le_of_eq W17.size.symm)) (Nat.le_of_eq W32.size.symm)) (Nat.le_of_eq W47.size.symm)) (Nat.le_of_eq W62.size.symm)) (Nat.le_of_eq gq67.symm)))).wr W84 (Or.inr (Nat.le_trans (Nat.le_trans (Nat.le_trans (Nat.le_trans (Nat.le_trans (Nat.le_trans (Nat.le_refl _) E3.1) (Nat.le_of_eq W17.size.symm)) (Nat.le_of_eq W32.size.symm)) (Nat.le_of_eq W47.size.symm)) (Nat.le_of_eq W62.size.symm)) (Nat.le_of_eq gq67.symm)))).ext Em).trans K89 all0).wr W97 (Or.inr (Nat.le_trans (Nat.le_trans (Nat.le_trans (Nat.le_trans (Nat.le_trans (Nat.le_trans (Nat.le_trans (Nat.le_trans (Nat.le_trans (Nat.le_trans (Nat.le_trans (Nat.le_refl _) E3.1) (Nat.le_of_eq W17.size.symm)) (Nat.le_of_eq W32.size.symm)) (Nat.le_of_eq W47.size.symm)) (Nat.le_of_eq W62.size.symm)) E67.1) (Nat.le_of_eq W72.size.symm)) (Nat.le_of_eq W78.size.symm)) (Nat.le_of_eq W84.size.symm)) Em.1) gl89_0))).wr W101 (Or.inr (Nat.le_trans (Nat.le_trans (Nat.le_trans (Nat.le_trans (Nat.le_trans (Nat.le_trans (Nat.le_trans (Nat.le_trans (Nat.le_trans (Nat.le_trans (Nat.le_refl _) E3.1) (Nat.le_of_eq W17.size.symm)) (Nat.le_of_eq W32.size.symm)) (Nat.le_of_eq W47.size.symm)) (Nat.le_of_eq W62.size.symm)) E67.1) (Nat.le_of_eq W72.size.symm)) (Nat.le_of_eq W78.size.symm)) (Nat.le_of_eq W84.size.symm)) (Nat.le_of_eq gm.symm)))).wr W250 (Or.inr (Nat.le_trans (Nat.le_trans (Nat.le_trans (Nat.le_trans (Nat.le_trans (Nat.le_trans (Nat.le_trans (Nat.le_trans (Nat.le_trans (Nat.le_trans (Nat.le_trans (Nat.le_refl _) E3.1) (Nat.le_of_eq W17.size.symm)) (Nat.le_of_eq W32.size.symm)) (Nat.le_of_eq W47.size.symm)) (Nat.le_of_eq W62.size.symm)) E67.1) (Nat.le_of_eq W72.size.symm)) (Nat.le_of_eq W78.size.symm)) (Nat.le_of_eq W84.size.symm)) Em.1) gl89_0))).wr W254 (Or.inr (Nat.le_trans (Nat.le_trans (Nat.le_trans (Nat.le_trans (Nat.le_trans (Nat.le_trans (Nat.le_trans (Nat.le_trans (Nat.le_trans (Nat.le_trans (Nat.le_refl _) E3.1) (Nat.le_of_eq W17.size.symm)) (Nat.le_of_eq W32.size.symm)) (Nat.le_of_eq W47.size.symm)) (Nat.le_of_eq W62.size.symm)) E67.1) (Nat.le_of_eq W72.size.symm)) (Nat.le_of_eq W78.size.symm)) (Nat.le_of_eq W84.size.symm)) (Nat.le_of_eq gm.symm)))).wr W295 (Or.inl (List.mem_of_getElem? (i := 0) rfl))).wr W300 (Or.inl (List.mem_of_getElem? (i := 0) rfl))).wr W305 (Or.inl (List.mem_of_getElem? (i := 0) rfl))).wr W310 (Or.inl (List.mem_of_getElem? (i := 0) rfl))), (Nat.le_trans (Nat.le_trans (Nat.le_trans (Nat.le_trans (Nat.le_trans (Nat.le_trans (Nat.le_refl _) E3.1) (Nat.le_of_eq W17.size.symm)) (Nat.le_of_eq W32.size.symm)) (Nat.le_of_eq W47.size.symm)) (Nat.le_of_eq W62.size.symm)) (Nat.le_of_eq gq67.symm)), (Nat.le_trans (Nat.le_trans (Nat.le_trans (Nat.le_trans (Nat.le_trans (Nat.le_trans (Nat.le_trans (Nat.le_trans (Nat.le_trans (Nat.le_trans (Nat.le_refl _) E3.1) (Nat.le_of_eq W17.size.symm)) (Nat.le_of_eq W32.size.symm)) (Nat.le_of_eq W47.size.symm)) (Nat.le_of_eq W62.size.symm)) E67.1) (Nat.le_of_eq W72.size.symm)) (Nat.le_of_eq W78.size.symm)) (Nat.le_of_eq W84.size.symm)) (Nat.le_of_eq gm.symm)), (Nat.ne_of_lt lt_ad67_am), (F312.wr W310), ((F304.other W305 (Or.inr (slot_ne (a0 := a0) (C := "com/example/sieve_for_links/sieveforlinks/VirtualLinks") (Or.inr (hw _ (List.mem_of_getElem? (i := 30) rfl))) (Or.inr (hw _ (List.mem_of_getElem? (i := 32) rfl))) (by decide) (t := (.array .double)) (t' := (.array .int)) (by decide) (by decide)))).other W310 (Or.inr (slot_ne (a0 := a0) (C := "com/example/sieve_for_links/sieveforlinks/VirtualLinks") (Or.inr (hw _ (List.mem_of_getElem? (i := 30) rfl))) (Or.inr (hw _ (List.mem_of_getElem? (i := 34) rfl))) (by decide) (t := (.array .double)) (t' := (.array .int)) (by decide) (by decide)))), (F309.other W310 (Or.inr (slot_ne (a0 := a0) (C := "com/example/sieve_for_links/sieveforlinks/VirtualLinks") (Or.inr (hw _ (List.mem_of_getElem? (i := 32) rfl))) (Or.inr (hw _ (List.mem_of_getElem? (i := 34) rfl))) (by decide) (t := (.array .int)) (t' := (.array .int)) (by decide) (by decide)))), F314, ((((VE1.other W295 (Ne.symm (Nat.ne_of_lt lt_o_ad67))).other W300 (Ne.symm (Nat.ne_of_lt lt_o_ad67))).other W305 (Ne.symm (Nat.ne_of_lt lt_o_ad67))).other W310 (Ne.symm (Nat.ne_of_lt lt_o_ad67))), ((((VE2.other W295 (Ne.symm (Nat.ne_of_lt lt_o_am))).other W300 (Ne.symm (Nat.ne_of_lt lt_o_am))).other W305 (Ne.symm (Nat.ne_of_lt lt_o_am))).other W310 (Ne.symm (Nat.ne_of_lt lt_o_am)))⟩)
      ·
        refine OwnW.ifcY (pc' := 243) d2_223 ((if0 _ _).trans (flt hc223_2).2.2.2) (by decide) (by decide) ?_
        refine OwnW.iinc (pc' := 246) (L' := #[.val (.ref o), .val (.ref q0), .val (.ref q1), .val (.int (3 : Int32)), .val (.ref ad3), .val (.ref ad67), .val (.ref am), .val (.ref ad89_0), .val (.int (3 : Int32))]) (d := (1 : Int32)) d2_243 rfl rfl rfl rfl ?_
        refine OwnW.goto (pc' := 212) d2_246 (by decide) (by decide) ?_
        refine OwnW.iload (pc' := 214) d2_212 rfl rfl ?_
        refine OwnW.aloadN (pc' := 215) d2_214 rfl (rfl) rfl ?_
        obtain ⟨cl315, Ar315, qk315, Sz315, Mn315, Hv315, Gf315⟩ := id F104
        refine OwnW.alen (pc' := 216) (x := (4 : Int32)) d2_215 Ar315 (len_of Sz315 Mn315) rfl ?_
        refine OwnW.icmpN (pc' := 219) d2_216 (tlt (by decide)).2.1 rfl ?_
        refine OwnW.aloadN (pc' := 220) d2_219 rfl (rfl) rfl ?_
        refine OwnW.iload (pc' := 222) d2_220 rfl rfl ?_
        obtain ⟨cl316, Ar316, qk316, Sz316, Mn316, Hv316, Gf316⟩ := id F104
        refine OwnW.iaload (pc' := 223) (v := (.int g3)) d2_222 Ar316 (inb_of Sz316 ⟨by decide, by decide⟩) (Hv316.at (inb_of Sz316 ⟨by decide, by decide⟩) rfl) rfl ?_
        by_cases hc223_3 : (0 : Int32) < g3
        ·
          refine OwnW.ifcN (pc' := 226) d2_223 ((if0 _ _).trans (tlt hc223_3).2.2.2) rfl ?_
          refine OwnW.aload (pc' := 228) d2_226 rfl (rfl) rfl ?_
          refine OwnW.aload (pc' := 230) d2_228 rfl (rfl) rfl ?_
          refine OwnW.aloadN (pc' := 231) d2_230 rfl (rfl) rfl ?_
          refine OwnW.iload (pc' := 233) d2_231 rfl rfl ?_
          obtain ⟨cl317, Ar317, qk317, Sz317, Mn317, Hv317, Gf317⟩ := id F104
          refine OwnW.iaload (pc' := 234) (v := (.int g3)) d2_233 Ar317 (inb_of Sz317 ⟨by decide, by decide⟩) (Hv317.at (inb_of Sz317 ⟨by decide, by decide⟩) rfl) rfl ?_
          refine OwnW.dup2 (pc' := 235) d2_234 rfl rfl rfl ?_
          have F318 := (VC98.other W101 (Ne.symm (Nat.ne_of_lt lt_am_ad89_0)))
          obtain ⟨cl319, Ar319, qk319, Sz319, Mn319, Hv319, Gf319⟩ := id F318
          refine OwnW.iaload (pc' := 236) (v := .int (C98.getD g3.toNatClampNeg 0)) d2_235 Ar319 (inb_of Sz319 (own_bd hg3)) (Hv319.at (inb_of Sz319 (own_bd hg3)) (own_gd C98 g3.toNatClampNeg)) rfl ?_
          show GoB2 l Z n0 (Q2 Z o q0 q1 kg ks g0 g1 g2 g3 s0 s1 s2 s3 h0) h101 4 17 236 #[.val (.ref o), .val (.ref q0), .val (.ref q1), .val (.int (3 : Int32)), .val (.ref ad3), .val (.ref ad67), .val (.ref am), .val (.ref ad89_0), .val (.int (3 : Int32))] [(.int (C98.getD g3.toNatClampNeg 0)), (.int g3), (.ref ad89_0), (.ref am)]
          refine OwnW.dupX2 (pc' := 237) d2_236 rfl ?_
          refine OwnW.iconst (pc' := 238) (v := (1 : Int32)) d2_237 rfl rfl ?_
          refine OwnW.iadd (pc' := 239) d2_238 rfl ?_
          obtain ⟨cl320, Ar320, qk320, Sz320, Mn320, Hv320, Gf320⟩ := id F318
          have bb320 := (own_bd hg3)
          refine OwnW.stI (pc' := 240) d2_239 Ar320 (inb_of Sz320 bb320) ge_ad89_0 rfl ?_
          intro h320 W320
          have sz322 : n0 ≤ h320.size := (by rw [W320.size]; exact sz103)
          obtain ⟨C321, hC321⟩ : ∃ z : List Int32, z = (C98.set g3.toNatClampNeg ((C98.getD g3.toNatClampNeg 0) + (1 : Int32))) := ⟨_, rfl⟩
          have VC321 : Arv Z h320 ad89_0 kc89_0 .int (4 : Int32) (C321.map Value.int) (.int (0 : Int32)) := by rw [hC321, List.map_set]; exact Arv.set Ar320 qk320 Sz320 Mn320 Hv320 Gf320 rfl W320 g3.toNatClampNeg rfl (own_ln (z := (4 : Int32)) lC98 bb320 (by decide))
          have lC321 : C321.length = 4 := by rw [hC321, List.length_set]; exact lC98
          show GoB2 l Z n0 (Q2 Z o q0 q1 kg ks g0 g1 g2 g3 s0 s1 s2 s3 h0) h320 4 17 240 #[.val (.ref o), .val (.ref q0), .val (.ref q1), .val (.int (3 : Int32)), .val (.ref ad3), .val (.ref ad67), .val (.ref am), .val (.ref ad89_0), .val (.int (3 : Int32))] [(.int (C98.getD g3.toNatClampNeg 0)), (.ref am)]
          refine OwnW.iload (pc' := 242) d2_240 rfl rfl ?_
          have F323 := (VC102.other W320 (Nat.ne_of_lt lt_am_ad89_0))
          obtain ⟨cl324, Ar324, qk324, Sz324, Mn324, Hv324, Gf324⟩ := id F323
          have bb324 := (own_mb7 hg0 hg1 hg2 hg3 hC15 hC18 hC33 hC48 hC63 hC68 hC73 hC79 hC85 hC0 hC95 hC98 hC102 hC321 htt hc223 hc223_1 hc223_2 hc223_3)
          refine OwnW.stI (pc' := 243) d2_242 Ar324 (inb_of Sz324 bb324) ge_am rfl ?_
          intro h324 W324
          have sz326 : n0 ≤ h324.size := (by rw [W324.size]; exact sz322)
          obtain ⟨C325, hC325⟩ : ∃ z : List Int32, z = (C102.set (C98.getD g3.toNatClampNeg 0).toNatClampNeg (3 : Int32)) := ⟨_, rfl⟩
          have VC325 : Arv Z h324 am km .int tt (C325.map Value.int) (.int (0 : Int32)) := by rw [hC325, List.map_set]; exact Arv.set Ar324 qk324 Sz324 Mn324 Hv324 Gf324 rfl W324 (C98.getD g3.toNatClampNeg 0).toNatClampNeg rfl (own_ln (z := tt) lC102 bb324 rfl)
          have lC325 : C325.length = tt.toNatClampNeg := by rw [hC325, List.length_set]; exact lC102
          show GoB2 l Z n0 (Q2 Z o q0 q1 kg ks g0 g1 g2 g3 s0 s1 s2 s3 h0) h324 4 17 243 #[.val (.ref o), .val (.ref q0), .val (.ref q1), .val (.int (3 : Int32)), .val (.ref ad3), .val (.ref ad67), .val (.ref am), .val (.ref ad89_0), .val (.int (3 : Int32))] []
          refine OwnW.iinc (pc' := 246) (L' := #[.val (.ref o), .val (.ref q0), .val (.ref q1), .val (.int (3 : Int32)), .val (.ref ad3), .val (.ref ad67), .val (.ref am), .val (.ref ad89_0), .val (.int (4 : Int32))]) (d := (1 : Int32)) d2_243 rfl rfl rfl rfl ?_
          refine OwnW.goto (pc' := 212) d2_246 (by decide) (by decide) ?_
          refine OwnW.iload (pc' := 214) d2_212 rfl rfl ?_
          refine OwnW.aloadN (pc' := 215) d2_214 rfl (rfl) rfl ?_
          have F327 := ((F104.other W320 (Nat.ne_of_lt lt_q0_ad89_0)).other W324 (Nat.ne_of_lt lt_q0_am))
          obtain ⟨cl328, Ar328, qk328, Sz328, Mn328, Hv328, Gf328⟩ := id F327
          refine OwnW.alen (pc' := 216) (x := (4 : Int32)) d2_215 Ar328 (len_of Sz328 Mn328) rfl ?_
          refine OwnW.icmpY (pc' := 249) d2_216 (flt (by decide)).2.1 (by decide) (by decide) ?_
          have he := own_end6 hg0 hg1 hg2 hg3 hC15 hC18 hC33 hC48 hC63 hC68 hC73 hC79 hC85 hC0 hC95 hC98 hC102 hC321 hC325 htt hc223 hc223_1 hc223_2 hc223_3
          have F329 := (((((F88.keep K89 nin0).other W97 (Nat.ne_of_lt lt_ad67_ad89_0)).other W101 (Nat.ne_of_lt lt_ad67_am)).other W320 (Nat.ne_of_lt lt_ad67_ad89_0)).other W324 (Nat.ne_of_lt lt_ad67_am))
          have VE1 : Arv Z h324 ad67 kc67 .int (5 : Int32) ((own_SL g0 g1 g2 g3).map Value.int) (.int (0 : Int32)) := by rw [← he.1]; exact F329
          have VE2 : Arv Z h324 am km .int (own_T g0 g1 g2 g3) ((own_ML g0 g1 g2 g3).map Value.int) (.int (0 : Int32)) := by rw [← he.2.1, ← ht2.2.2]; exact VC325
          refine OwnW.aloadN (pc' := 250) d2_249 rfl (rfl) rfl ?_
          refine OwnW.aloadN (pc' := 251) d2_250 rfl (rfl) rfl ?_
          have F331 := (((((((((((((((F_groups.ext E3).other W17 (Or.inl (Nat.ne_of_lt lt_o_ad3))).other W32 (Or.inl (Nat.ne_of_lt lt_o_ad3))).other W47 (Or.inl (Nat.ne_of_lt lt_o_ad3))).other W62 (Or.inl (Nat.ne_of_lt lt_o_ad3))).ext E67).other W72 (Or.inl (Nat.ne_of_lt lt_o_ad67))).other W78 (Or.inl (Nat.ne_of_lt lt_o_ad67))).other W84 (Or.inl (Nat.ne_of_lt lt_o_ad67))).ext Em).keep K89 nin0).other W97 (Or.inl (Nat.ne_of_lt lt_o_ad89_0))).other W101 (Or.inl (Nat.ne_of_lt lt_o_am))).other W320 (Or.inl (Nat.ne_of_lt lt_o_ad89_0))).other W324 (Or.inl (Nat.ne_of_lt lt_o_am)))
          have F332 := (((((((((((((((E_o.ext E3).wr W17).wr W32).wr W47).wr W62).ext E67).wr W72).wr W78).wr W84).ext Em).keep K89).wr W97).wr W101).wr W320).wr W324)
          refine OwnW.putF (a0 := a0) (pc' := 254) d2_251 (host := "") (Or.inl (hw _ (List.mem_of_getElem? (i := 27) rfl))) Via.refl F331 F332 (Or.inr ⟨(hw _ (List.mem_of_getElem? (i := 28) rfl)), rfl, rfl⟩) (hw _ (List.mem_of_getElem? (i := 7) rfl)) (ty := (.array .int)) (by decide) rfl rfl g_o rfl ?_
          intro h330 W330
          have sz333 : n0 ≤ h330.size := (by rw [W330.size]; exact sz326)
          have F334 := F331.same W330
          refine OwnW.aloadN (pc' := 255) d2_254 rfl (rfl) rfl ?_
          refine OwnW.aloadN (pc' := 256) d2_255 rfl (rfl) rfl ?_
          have F336 := ((((((((((((((((F_shares.ext E3).other W17 (Or.inl (Nat.ne_of_lt lt_o_ad3))).other W32 (Or.inl (Nat.ne_of_lt lt_o_ad3))).other W47 (Or.inl (Nat.ne_of_lt lt_o_ad3))).other W62 (Or.inl (Nat.ne_of_lt lt_o_ad3))).ext E67).other W72 (Or.inl (Nat.ne_of_lt lt_o_ad67))).other W78 (Or.inl (Nat.ne_of_lt lt_o_ad67))).other W84 (Or.inl (Nat.ne_of_lt lt_o_ad67))).ext Em).keep K89 nin0).other W97 (Or.inl (Nat.ne_of_lt lt_o_ad89_0))).other W101 (Or.inl (Nat.ne_of_lt lt_o_am))).other W320 (Or.inl (Nat.ne_of_lt lt_o_ad89_0))).other W324 (Or.inl (Nat.ne_of_lt lt_o_am))).other W330 (Or.inr (slot_ne (a0 := a0) (C := "com/example/sieve_for_links/sieveforlinks/VirtualLinks") (Or.inr (hw _ (List.mem_of_getElem? (i := 30) rfl))) (Or.inr (hw _ (List.mem_of_getElem? (i := 28) rfl))) (by decide) (t := (.array .double)) (t' := (.array .int)) (by decide) (by decide))))
          have F337 := (F332.wr W330)
          refine OwnW.putF (a0 := a0) (pc' := 259) d2_256 (host := "") (Or.inl (hw _ (List.mem_of_getElem? (i := 29) rfl))) Via.refl F336 F337 (Or.inr ⟨(hw _ (List.mem_of_getElem? (i := 30) rfl)), rfl, rfl⟩) (hw _ (List.mem_of_getElem? (i := 7) rfl)) (ty := (.array .double)) (by decide) rfl rfl g_o rfl ?_
          intro h335 W335
          have sz338 : n0 ≤ h335.size := (by rw [W335.size]; exact sz333)
          have F339 := F336.same W335
          refine OwnW.aloadN (pc' := 260) d2_259 rfl (rfl) rfl ?_
          refine OwnW.aload (pc' := 262) d2_260 rfl (rfl) rfl ?_
          have F341 := (((((((((((((((((F_members.ext E3).other W17 (Or.inl (Nat.ne_of_lt lt_o_ad3))).other W32 (Or.inl (Nat.ne_of_lt lt_o_ad3))).other W47 (Or.inl (Nat.ne_of_lt lt_o_ad3))).other W62 (Or.inl (Nat.ne_of_lt lt_o_ad3))).ext E67).other W72 (Or.inl (Nat.ne_of_lt lt_o_ad67))).other W78 (Or.inl (Nat.ne_of_lt lt_o_ad67))).other W84 (Or.inl (Nat.ne_of_lt lt_o_ad67))).ext Em).keep K89 nin0).other W97 (Or.inl (Nat.ne_of_lt lt_o_ad89_0))).other W101 (Or.inl (Nat.ne_of_lt lt_o_am))).other W320 (Or.inl (Nat.ne_of_lt lt_o_ad89_0))).other W324 (Or.inl (Nat.ne_of_lt lt_o_am))).other W330 (Or.inr (slot_ne (a0 := a0) (C := "com/example/sieve_for_links/sieveforlinks/VirtualLinks") (Or.inr (hw _ (List.mem_of_getElem? (i := 32) rfl))) (Or.inr (hw _ (List.mem_of_getElem? (i := 28) rfl))) (by decide) (t := (.array .int)) (t' := (.array .int)) (by decide) (by decide)))).other W335 (Or.inr (slot_ne (a0 := a0) (C := "com/example/sieve_for_links/sieveforlinks/VirtualLinks") (Or.inr (hw _ (List.mem_of_getElem? (i := 32) rfl))) (Or.inr (hw _ (List.mem_of_getElem? (i := 30) rfl))) (by decide) (t := (.array .int)) (t' := (.array .double)) (by decide) (by decide))))
          have F342 := (F337.wr W335)
          refine OwnW.putF (a0 := a0) (pc' := 265) d2_262 (host := "") (Or.inl (hw _ (List.mem_of_getElem? (i := 31) rfl))) Via.refl F341 F342 (Or.inr ⟨(hw _ (List.mem_of_getElem? (i := 32) rfl)), rfl, rfl⟩) (hw _ (List.mem_of_getElem? (i := 7) rfl)) (ty := (.array .int)) (by decide) rfl rfl g_o rfl ?_
          intro h340 W340
          have sz343 : n0 ≤ h340.size := (by rw [W340.size]; exact sz338)
          have F344 := F341.same W340
          refine OwnW.aloadN (pc' := 266) d2_265 rfl (rfl) rfl ?_
          refine OwnW.aload (pc' := 268) d2_266 rfl (rfl) rfl ?_
          have F346 := ((((((((((((((((((F_memberStarts.ext E3).other W17 (Or.inl (Nat.ne_of_lt lt_o_ad3))).other W32 (Or.inl (Nat.ne_of_lt lt_o_ad3))).other W47 (Or.inl (Nat.ne_of_lt lt_o_ad3))).other W62 (Or.inl (Nat.ne_of_lt lt_o_ad3))).ext E67).other W72 (Or.inl (Nat.ne_of_lt lt_o_ad67))).other W78 (Or.inl (Nat.ne_of_lt lt_o_ad67))).other W84 (Or.inl (Nat.ne_of_lt lt_o_ad67))).ext Em).keep K89 nin0).other W97 (Or.inl (Nat.ne_of_lt lt_o_ad89_0))).other W101 (Or.inl (Nat.ne_of_lt lt_o_am))).other W320 (Or.inl (Nat.ne_of_lt lt_o_ad89_0))).other W324 (Or.inl (Nat.ne_of_lt lt_o_am))).other W330 (Or.inr (slot_ne (a0 := a0) (C := "com/example/sieve_for_links/sieveforlinks/VirtualLinks") (Or.inr (hw _ (List.mem_of_getElem? (i := 34) rfl))) (Or.inr (hw _ (List.mem_of_getElem? (i := 28) rfl))) (by decide) (t := (.array .int)) (t' := (.array .int)) (by decide) (by decide)))).other W335 (Or.inr (slot_ne (a0 := a0) (C := "com/example/sieve_for_links/sieveforlinks/VirtualLinks") (Or.inr (hw _ (List.mem_of_getElem? (i := 34) rfl))) (Or.inr (hw _ (List.mem_of_getElem? (i := 30) rfl))) (by decide) (t := (.array .int)) (t' := (.array .double)) (by decide) (by decide)))).other W340 (Or.inr (slot_ne (a0 := a0) (C := "com/example/sieve_for_links/sieveforlinks/VirtualLinks") (Or.inr (hw _ (List.mem_of_getElem? (i := 34) rfl))) (Or.inr (hw _ (List.mem_of_getElem? (i := 32) rfl))) (by decide) (t := (.array .int)) (t' := (.array .int)) (by decide) (by decide))))
          have F347 := (F342.wr W340)
          refine OwnW.putF (a0 := a0) (pc' := 271) d2_268 (host := "") (Or.inl (hw _ (List.mem_of_getElem? (i := 33) rfl))) Via.refl F346 F347 (Or.inr ⟨(hw _ (List.mem_of_getElem? (i := 34) rfl)), rfl, rfl⟩) (hw _ (List.mem_of_getElem? (i := 7) rfl)) (ty := (.array .int)) (by decide) rfl rfl g_o rfl ?_
          intro h345 W345
          have sz348 : n0 ≤ h345.size := (by rw [W345.size]; exact sz343)
          have F349 := F346.same W345
          exact OwnW.ret0 d2_271 rfl (by decide) (by decide) (⟨ad67, am, kc67, km, rfl, ((((((((((((((((((((Keep.refl h0 [o]).ext E3).wr W17 (Or.inr (Nat.le_trans (Nat.le_refl _) (Nat.le_of_eq gq3.symm)))).wr W32 (Or.inr (Nat.le_trans (Nat.le_refl _) (Nat.le_of_eq gq3.symm)))).wr W47 (Or.inr (Nat.le_trans (Nat.le_refl _) (Nat.le_of_eq gq3.symm)))).wr W62 (Or.inr (Nat.le_trans (Nat.le_refl _) (Nat.le_of_eq gq3.symm)))).ext E67).wr W72 (Or.inr (Nat.le_trans (Nat.le_trans (Nat.le_trans (Nat.le_trans (Nat.le_trans (Nat.le_trans (Nat.le_refl _) E3.1) (Nat.le_of_eq W17.size.symm)) (Nat.le_of_eq W32.size.symm)) (Nat.le_of_eq W47.size.symm)) (Nat.le_of_eq W62.size.symm)) (Nat.le_of_eq gq67.symm)))).wr W78 (Or.inr (Nat.le_trans (Nat.le_trans (Nat.le_trans (Nat.le_trans (Nat.le_trans (Nat.le_trans (Nat.le_refl _) E3.1) (Nat.le_of_eq W17.size.symm)) (Nat.le_of_eq W32.size.symm)) (Nat.le_of_eq W47.size.symm)) (Nat.le_of_eq W62.size.symm)) (Nat.le_of_eq gq67.symm)))).wr W84 (Or.inr (Nat.le_trans (Nat.le_trans (Nat.le_trans (Nat.le_trans (Nat.le_trans (Nat.le_trans (Nat.le_refl _) E3.1) (Nat.le_of_eq W17.size.symm)) (Nat.le_of_eq W32.size.symm)) (Nat.le_of_eq W47.size.symm)) (Nat.le_of_eq W62.size.symm)) (Nat.le_of_eq gq67.symm)))).ext Em).trans K89 all0).wr W97 (Or.inr (Nat.le_trans (Nat.le_trans (Nat.le_trans (Nat.le_trans (Nat.le_trans (Nat.le_trans (Nat.le_trans (Nat.le_trans (Nat.le_trans (Nat.le_trans (Nat.le_trans (Nat.le_refl _) E3.1) (Nat.le_of_eq W17.size.symm)) (Nat.le_of_eq W32.size.symm)) (Nat.le_of_eq W47.size.symm)) (Nat.le_of_eq W62.size.symm)) E67.1) (Nat.le_of_eq W72.size.symm)) (Nat.le_of_eq W78.size.symm)) (Nat.le_of_eq W84.size.symm)) Em.1) gl89_0))).wr W101 (Or.inr (Nat.le_trans (Nat.le_trans (Nat.le_trans (Nat.le_trans (Nat.le_trans (Nat.le_trans (Nat.le_trans (Nat.le_trans (Nat.le_trans (Nat.le_trans (Nat.le_refl _) E3.1) (Nat.le_of_eq W17.size.symm)) (Nat.le_of_eq W32.size.symm)) (Nat.le_of_eq W47.size.symm)) (Nat.le_of_eq W62.size.symm)) E67.1) (Nat.le_of_eq W72.size.symm)) (Nat.le_of_eq W78.size.symm)) (Nat.le_of_eq W84.size.symm)) (Nat.le_of_eq gm.symm)))).wr W320 (Or.inr (Nat.le_trans (Nat.le_trans (Nat.le_trans (Nat.le_trans (Nat.le_trans (Nat.le_trans (Nat.le_trans (Nat.le_trans (Nat.le_trans (Nat.le_trans (Nat.le_trans (Nat.le_refl _) E3.1) (Nat.le_of_eq W17.size.symm)) (Nat.le_of_eq W32.size.symm)) (Nat.le_of_eq W47.size.symm)) (Nat.le_of_eq W62.size.symm)) E67.1) (Nat.le_of_eq W72.size.symm)) (Nat.le_of_eq W78.size.symm)) (Nat.le_of_eq W84.size.symm)) Em.1) gl89_0))).wr W324 (Or.inr (Nat.le_trans (Nat.le_trans (Nat.le_trans (Nat.le_trans (Nat.le_trans (Nat.le_trans (Nat.le_trans (Nat.le_trans (Nat.le_trans (Nat.le_trans (Nat.le_refl _) E3.1) (Nat.le_of_eq W17.size.symm)) (Nat.le_of_eq W32.size.symm)) (Nat.le_of_eq W47.size.symm)) (Nat.le_of_eq W62.size.symm)) E67.1) (Nat.le_of_eq W72.size.symm)) (Nat.le_of_eq W78.size.symm)) (Nat.le_of_eq W84.size.symm)) (Nat.le_of_eq gm.symm)))).wr W330 (Or.inl (List.mem_of_getElem? (i := 0) rfl))).wr W335 (Or.inl (List.mem_of_getElem? (i := 0) rfl))).wr W340 (Or.inl (List.mem_of_getElem? (i := 0) rfl))).wr W345 (Or.inl (List.mem_of_getElem? (i := 0) rfl))), (Nat.le_trans (Nat.le_trans (Nat.le_trans (Nat.le_trans (Nat.le_trans (Nat.le_trans (Nat.le_refl _) E3.1) (Nat.le_of_eq W17.size.symm)) (Nat.le_of_eq W32.size.symm)) (Nat.le_of_eq W47.size.symm)) (Nat.le_of_eq W62.size.symm)) (Nat.le_of_eq gq67.symm)), (Nat.le_trans (Nat.le_trans (Nat.le_trans (Nat.le_trans (Nat.le_trans (Nat.le_trans (Nat.le_trans (Nat.le_trans (Nat.le_trans (Nat.le_trans (Nat.le_refl _) E3.1) (Nat.le_of_eq W17.size.symm)) (Nat.le_of_eq W32.size.symm)) (Nat.le_of_eq W47.size.symm)) (Nat.le_of_eq W62.size.symm)) E67.1) (Nat.le_of_eq W72.size.symm)) (Nat.le_of_eq W78.size.symm)) (Nat.le_of_eq W84.size.symm)) (Nat.le_of_eq gm.symm)), (Nat.ne_of_lt lt_ad67_am), (F347.wr W345), ((F339.other W340 (Or.inr (slot_ne (a0 := a0) (C := "com/example/sieve_for_links/sieveforlinks/VirtualLinks") (Or.inr (hw _ (List.mem_of_getElem? (i := 30) rfl))) (Or.inr (hw _ (List.mem_of_getElem? (i := 32) rfl))) (by decide) (t := (.array .double)) (t' := (.array .int)) (by decide) (by decide)))).other W345 (Or.inr (slot_ne (a0 := a0) (C := "com/example/sieve_for_links/sieveforlinks/VirtualLinks") (Or.inr (hw _ (List.mem_of_getElem? (i := 30) rfl))) (Or.inr (hw _ (List.mem_of_getElem? (i := 34) rfl))) (by decide) (t := (.array .double)) (t' := (.array .int)) (by decide) (by decide)))), (F344.other W345 (Or.inr (slot_ne (a0 := a0) (C := "com/example/sieve_for_links/sieveforlinks/VirtualLinks") (Or.inr (hw _ (List.mem_of_getElem? (i := 32) rfl))) (Or.inr (hw _ (List.mem_of_getElem? (i := 34) rfl))) (by decide) (t := (.array .int)) (t' := (.array .int)) (by decide) (by decide)))), F349, ((((VE1.other W330 (Ne.symm (Nat.ne_of_lt lt_o_ad67))).other W335 (Ne.symm (Nat.ne_of_lt lt_o_ad67))).other W340 (Ne.symm (Nat.ne_of_lt lt_o_ad67))).other W345 (Ne.symm (Nat.ne_of_lt lt_o_ad67))), ((((VE2.other W330 (Ne.symm (Nat.ne_of_lt lt_o_am))).other W335 (Ne.symm (Nat.ne_of_lt lt_o_am))).other W340 (Ne.symm (Nat.ne_of_lt lt_o_am))).other W345 (Ne.symm (Nat.ne_of_lt lt_o_am)))⟩)
        ·
          refine OwnW.ifcY (pc' := 243) d2_223 ((if0 _ _).trans (flt hc223_3).2.2.2) (by decide) (by decide) ?_
          refine OwnW.iinc (pc' := 246) (L' := #[.val (.ref o), .val (.ref q0), .val (.ref q1), .val (.int (3 : Int32)), .val (.ref ad3), .val (.ref ad67), .val (.ref am), .val (.ref ad89_0), .val (.int (4 : Int32))]) (d := (1 : Int32)) d2_243 rfl rfl rfl rfl ?_
          refine OwnW.goto (pc' := 212) d2_246 (by decide) (by decide) ?_
          refine OwnW.iload (pc' := 214) d2_212 rfl rfl ?_
          refine OwnW.aloadN (pc' := 215) d2_214 rfl (rfl) rfl ?_
          obtain ⟨cl350, Ar350, qk350, Sz350, Mn350, Hv350, Gf350⟩ := id F104
          refine OwnW.alen (pc' := 216) (x := (4 : Int32)) d2_215 Ar350 (len_of Sz350 Mn350) rfl ?_
          refine OwnW.icmpY (pc' := 249) d2_216 (flt (by decide)).2.1 (by decide) (by decide) ?_
          have he := own_end7 hg0 hg1 hg2 hg3 hC15 hC18 hC33 hC48 hC63 hC68 hC73 hC79 hC85 hC0 hC95 hC98 hC102 htt hc223 hc223_1 hc223_2 hc223_3
          have F351 := (((F88.keep K89 nin0).other W97 (Nat.ne_of_lt lt_ad67_ad89_0)).other W101 (Nat.ne_of_lt lt_ad67_am))
          have VE1 : Arv Z h101 ad67 kc67 .int (5 : Int32) ((own_SL g0 g1 g2 g3).map Value.int) (.int (0 : Int32)) := by rw [← he.1]; exact F351
          have VE2 : Arv Z h101 am km .int (own_T g0 g1 g2 g3) ((own_ML g0 g1 g2 g3).map Value.int) (.int (0 : Int32)) := by rw [← he.2.1, ← ht2.2.2]; exact VC102
          refine OwnW.aloadN (pc' := 250) d2_249 rfl (rfl) rfl ?_
          refine OwnW.aloadN (pc' := 251) d2_250 rfl (rfl) rfl ?_
          have F353 := (((((((((((((F_groups.ext E3).other W17 (Or.inl (Nat.ne_of_lt lt_o_ad3))).other W32 (Or.inl (Nat.ne_of_lt lt_o_ad3))).other W47 (Or.inl (Nat.ne_of_lt lt_o_ad3))).other W62 (Or.inl (Nat.ne_of_lt lt_o_ad3))).ext E67).other W72 (Or.inl (Nat.ne_of_lt lt_o_ad67))).other W78 (Or.inl (Nat.ne_of_lt lt_o_ad67))).other W84 (Or.inl (Nat.ne_of_lt lt_o_ad67))).ext Em).keep K89 nin0).other W97 (Or.inl (Nat.ne_of_lt lt_o_ad89_0))).other W101 (Or.inl (Nat.ne_of_lt lt_o_am)))
          have F354 := (((((((((((((E_o.ext E3).wr W17).wr W32).wr W47).wr W62).ext E67).wr W72).wr W78).wr W84).ext Em).keep K89).wr W97).wr W101)
          refine OwnW.putF (a0 := a0) (pc' := 254) d2_251 (host := "") (Or.inl (hw _ (List.mem_of_getElem? (i := 27) rfl))) Via.refl F353 F354 (Or.inr ⟨(hw _ (List.mem_of_getElem? (i := 28) rfl)), rfl, rfl⟩) (hw _ (List.mem_of_getElem? (i := 7) rfl)) (ty := (.array .int)) (by decide) rfl rfl g_o rfl ?_
          intro h352 W352
          have sz355 : n0 ≤ h352.size := (by rw [W352.size]; exact sz103)
          have F356 := F353.same W352
          refine OwnW.aloadN (pc' := 255) d2_254 rfl (rfl) rfl ?_
          refine OwnW.aloadN (pc' := 256) d2_255 rfl (rfl) rfl ?_
          have F358 := ((((((((((((((F_shares.ext E3).other W17 (Or.inl (Nat.ne_of_lt lt_o_ad3))).other W32 (Or.inl (Nat.ne_of_lt lt_o_ad3))).other W47 (Or.inl (Nat.ne_of_lt lt_o_ad3))).other W62 (Or.inl (Nat.ne_of_lt lt_o_ad3))).ext E67).other W72 (Or.inl (Nat.ne_of_lt lt_o_ad67))).other W78 (Or.inl (Nat.ne_of_lt lt_o_ad67))).other W84 (Or.inl (Nat.ne_of_lt lt_o_ad67))).ext Em).keep K89 nin0).other W97 (Or.inl (Nat.ne_of_lt lt_o_ad89_0))).other W101 (Or.inl (Nat.ne_of_lt lt_o_am))).other W352 (Or.inr (slot_ne (a0 := a0) (C := "com/example/sieve_for_links/sieveforlinks/VirtualLinks") (Or.inr (hw _ (List.mem_of_getElem? (i := 30) rfl))) (Or.inr (hw _ (List.mem_of_getElem? (i := 28) rfl))) (by decide) (t := (.array .double)) (t' := (.array .int)) (by decide) (by decide))))
          have F359 := (F354.wr W352)
          refine OwnW.putF (a0 := a0) (pc' := 259) d2_256 (host := "") (Or.inl (hw _ (List.mem_of_getElem? (i := 29) rfl))) Via.refl F358 F359 (Or.inr ⟨(hw _ (List.mem_of_getElem? (i := 30) rfl)), rfl, rfl⟩) (hw _ (List.mem_of_getElem? (i := 7) rfl)) (ty := (.array .double)) (by decide) rfl rfl g_o rfl ?_
          intro h357 W357
          have sz360 : n0 ≤ h357.size := (by rw [W357.size]; exact sz355)
          have F361 := F358.same W357
          refine OwnW.aloadN (pc' := 260) d2_259 rfl (rfl) rfl ?_
          refine OwnW.aload (pc' := 262) d2_260 rfl (rfl) rfl ?_
          have F363 := (((((((((((((((F_members.ext E3).other W17 (Or.inl (Nat.ne_of_lt lt_o_ad3))).other W32 (Or.inl (Nat.ne_of_lt lt_o_ad3))).other W47 (Or.inl (Nat.ne_of_lt lt_o_ad3))).other W62 (Or.inl (Nat.ne_of_lt lt_o_ad3))).ext E67).other W72 (Or.inl (Nat.ne_of_lt lt_o_ad67))).other W78 (Or.inl (Nat.ne_of_lt lt_o_ad67))).other W84 (Or.inl (Nat.ne_of_lt lt_o_ad67))).ext Em).keep K89 nin0).other W97 (Or.inl (Nat.ne_of_lt lt_o_ad89_0))).other W101 (Or.inl (Nat.ne_of_lt lt_o_am))).other W352 (Or.inr (slot_ne (a0 := a0) (C := "com/example/sieve_for_links/sieveforlinks/VirtualLinks") (Or.inr (hw _ (List.mem_of_getElem? (i := 32) rfl))) (Or.inr (hw _ (List.mem_of_getElem? (i := 28) rfl))) (by decide) (t := (.array .int)) (t' := (.array .int)) (by decide) (by decide)))).other W357 (Or.inr (slot_ne (a0 := a0) (C := "com/example/sieve_for_links/sieveforlinks/VirtualLinks") (Or.inr (hw _ (List.mem_of_getElem? (i := 32) rfl))) (Or.inr (hw _ (List.mem_of_getElem? (i := 30) rfl))) (by decide) (t := (.array .int)) (t' := (.array .double)) (by decide) (by decide))))
          have F364 := (F359.wr W357)
          refine OwnW.putF (a0 := a0) (pc' := 265) d2_262 (host := "") (Or.inl (hw _ (List.mem_of_getElem? (i := 31) rfl))) Via.refl F363 F364 (Or.inr ⟨(hw _ (List.mem_of_getElem? (i := 32) rfl)), rfl, rfl⟩) (hw _ (List.mem_of_getElem? (i := 7) rfl)) (ty := (.array .int)) (by decide) rfl rfl g_o rfl ?_
          intro h362 W362
          have sz365 : n0 ≤ h362.size := (by rw [W362.size]; exact sz360)
          have F366 := F363.same W362
          refine OwnW.aloadN (pc' := 266) d2_265 rfl (rfl) rfl ?_
          refine OwnW.aload (pc' := 268) d2_266 rfl (rfl) rfl ?_
          have F368 := ((((((((((((((((F_memberStarts.ext E3).other W17 (Or.inl (Nat.ne_of_lt lt_o_ad3))).other W32 (Or.inl (Nat.ne_of_lt lt_o_ad3))).other W47 (Or.inl (Nat.ne_of_lt lt_o_ad3))).other W62 (Or.inl (Nat.ne_of_lt lt_o_ad3))).ext E67).other W72 (Or.inl (Nat.ne_of_lt lt_o_ad67))).other W78 (Or.inl (Nat.ne_of_lt lt_o_ad67))).other W84 (Or.inl (Nat.ne_of_lt lt_o_ad67))).ext Em).keep K89 nin0).other W97 (Or.inl (Nat.ne_of_lt lt_o_ad89_0))).other W101 (Or.inl (Nat.ne_of_lt lt_o_am))).other W352 (Or.inr (slot_ne (a0 := a0) (C := "com/example/sieve_for_links/sieveforlinks/VirtualLinks") (Or.inr (hw _ (List.mem_of_getElem? (i := 34) rfl))) (Or.inr (hw _ (List.mem_of_getElem? (i := 28) rfl))) (by decide) (t := (.array .int)) (t' := (.array .int)) (by decide) (by decide)))).other W357 (Or.inr (slot_ne (a0 := a0) (C := "com/example/sieve_for_links/sieveforlinks/VirtualLinks") (Or.inr (hw _ (List.mem_of_getElem? (i := 34) rfl))) (Or.inr (hw _ (List.mem_of_getElem? (i := 30) rfl))) (by decide) (t := (.array .int)) (t' := (.array .double)) (by decide) (by decide)))).other W362 (Or.inr (slot_ne (a0 := a0) (C := "com/example/sieve_for_links/sieveforlinks/VirtualLinks") (Or.inr (hw _ (List.mem_of_getElem? (i := 34) rfl))) (Or.inr (hw _ (List.mem_of_getElem? (i := 32) rfl))) (by decide) (t := (.array .int)) (t' := (.array .int)) (by decide) (by decide))))
          have F369 := (F364.wr W362)
          refine OwnW.putF (a0 := a0) (pc' := 271) d2_268 (host := "") (Or.inl (hw _ (List.mem_of_getElem? (i := 33) rfl))) Via.refl F368 F369 (Or.inr ⟨(hw _ (List.mem_of_getElem? (i := 34) rfl)), rfl, rfl⟩) (hw _ (List.mem_of_getElem? (i := 7) rfl)) (ty := (.array .int)) (by decide) rfl rfl g_o rfl ?_
          intro h367 W367
          have sz370 : n0 ≤ h367.size := (by rw [W367.size]; exact sz365)
          have F371 := F368.same W367
          exact OwnW.ret0 d2_271 rfl (by decide) (by decide) (⟨ad67, am, kc67, km, rfl, ((((((((((((((((((Keep.refl h0 [o]).ext E3).wr W17 (Or.inr (Nat.le_trans (Nat.le_refl _) (Nat.le_of_eq gq3.symm)))).wr W32 (Or.inr (Nat.le_trans (Nat.le_refl _) (Nat.le_of_eq gq3.symm)))).wr W47 (Or.inr (Nat.le_trans (Nat.le_refl _) (Nat.le_of_eq gq3.symm)))).wr W62 (Or.inr (Nat.le_trans (Nat.le_refl _) (Nat.le_of_eq gq3.symm)))).ext E67).wr W72 (Or.inr (Nat.le_trans (Nat.le_trans (Nat.le_trans (Nat.le_trans (Nat.le_trans (Nat.le_trans (Nat.le_refl _) E3.1) (Nat.le_of_eq W17.size.symm)) (Nat.le_of_eq W32.size.symm)) (Nat.le_of_eq W47.size.symm)) (Nat.le_of_eq W62.size.symm)) (Nat.le_of_eq gq67.symm)))).wr W78 (Or.inr (Nat.le_trans (Nat.le_trans (Nat.le_trans (Nat.le_trans (Nat.le_trans (Nat.le_trans (Nat.le_refl _) E3.1) (Nat.le_of_eq W17.size.symm)) (Nat.le_of_eq W32.size.symm)) (Nat.le_of_eq W47.size.symm)) (Nat.le_of_eq W62.size.symm)) (Nat.le_of_eq gq67.symm)))).wr W84 (Or.inr (Nat.le_trans (Nat.le_trans (Nat.le_trans (Nat.le_trans (Nat.le_trans (Nat.le_trans (Nat.le_refl _) E3.1) (Nat.le_of_eq W17.size.symm)) (Nat.le_of_eq W32.size.symm)) (Nat.le_of_eq W47.size.symm)) (Nat.le_of_eq W62.size.symm)) (Nat.le_of_eq gq67.symm)))).ext Em).trans K89 all0).wr W97 (Or.inr (Nat.le_trans (Nat.le_trans (Nat.le_trans (Nat.le_trans (Nat.le_trans (Nat.le_trans (Nat.le_trans (Nat.le_trans (Nat.le_trans (Nat.le_trans (Nat.le_trans (Nat.le_refl _) E3.1) (Nat.le_of_eq W17.size.symm)) (Nat.le_of_eq W32.size.symm)) (Nat.le_of_eq W47.size.symm)) (Nat.le_of_eq W62.size.symm)) E67.1) (Nat.le_of_eq W72.size.symm)) (Nat.le_of_eq W78.size.symm)) (Nat.le_of_eq W84.size.symm)) Em.1) gl89_0))).wr W101 (Or.inr (Nat.le_trans (Nat.le_trans (Nat.le_trans (Nat.le_trans (Nat.le_trans (Nat.le_trans (Nat.le_trans (Nat.le_trans (Nat.le_trans (Nat.le_trans (Nat.le_refl _) E3.1) (Nat.le_of_eq W17.size.symm)) (Nat.le_of_eq W32.size.symm)) (Nat.le_of_eq W47.size.symm)) (Nat.le_of_eq W62.size.symm)) E67.1) (Nat.le_of_eq W72.size.symm)) (Nat.le_of_eq W78.size.symm)) (Nat.le_of_eq W84.size.symm)) (Nat.le_of_eq gm.symm)))).wr W352 (Or.inl (List.mem_of_getElem? (i := 0) rfl))).wr W357 (Or.inl (List.mem_of_getElem? (i := 0) rfl))).wr W362 (Or.inl (List.mem_of_getElem? (i := 0) rfl))).wr W367 (Or.inl (List.mem_of_getElem? (i := 0) rfl))), (Nat.le_trans (Nat.le_trans (Nat.le_trans (Nat.le_trans (Nat.le_trans (Nat.le_trans (Nat.le_refl _) E3.1) (Nat.le_of_eq W17.size.symm)) (Nat.le_of_eq W32.size.symm)) (Nat.le_of_eq W47.size.symm)) (Nat.le_of_eq W62.size.symm)) (Nat.le_of_eq gq67.symm)), (Nat.le_trans (Nat.le_trans (Nat.le_trans (Nat.le_trans (Nat.le_trans (Nat.le_trans (Nat.le_trans (Nat.le_trans (Nat.le_trans (Nat.le_trans (Nat.le_refl _) E3.1) (Nat.le_of_eq W17.size.symm)) (Nat.le_of_eq W32.size.symm)) (Nat.le_of_eq W47.size.symm)) (Nat.le_of_eq W62.size.symm)) E67.1) (Nat.le_of_eq W72.size.symm)) (Nat.le_of_eq W78.size.symm)) (Nat.le_of_eq W84.size.symm)) (Nat.le_of_eq gm.symm)), (Nat.ne_of_lt lt_ad67_am), (F369.wr W367), ((F361.other W362 (Or.inr (slot_ne (a0 := a0) (C := "com/example/sieve_for_links/sieveforlinks/VirtualLinks") (Or.inr (hw _ (List.mem_of_getElem? (i := 30) rfl))) (Or.inr (hw _ (List.mem_of_getElem? (i := 32) rfl))) (by decide) (t := (.array .double)) (t' := (.array .int)) (by decide) (by decide)))).other W367 (Or.inr (slot_ne (a0 := a0) (C := "com/example/sieve_for_links/sieveforlinks/VirtualLinks") (Or.inr (hw _ (List.mem_of_getElem? (i := 30) rfl))) (Or.inr (hw _ (List.mem_of_getElem? (i := 34) rfl))) (by decide) (t := (.array .double)) (t' := (.array .int)) (by decide) (by decide)))), (F366.other W367 (Or.inr (slot_ne (a0 := a0) (C := "com/example/sieve_for_links/sieveforlinks/VirtualLinks") (Or.inr (hw _ (List.mem_of_getElem? (i := 32) rfl))) (Or.inr (hw _ (List.mem_of_getElem? (i := 34) rfl))) (by decide) (t := (.array .int)) (t' := (.array .int)) (by decide) (by decide)))), F371, ((((VE1.other W352 (Ne.symm (Nat.ne_of_lt lt_o_ad67))).other W357 (Ne.symm (Nat.ne_of_lt lt_o_ad67))).other W362 (Ne.symm (Nat.ne_of_lt lt_o_ad67))).other W367 (Ne.symm (Nat.ne_of_lt lt_o_ad67))), ((((VE2.other W352 (Ne.symm (Nat.ne_of_lt lt_o_am))).other W357 (Ne.symm (Nat.ne_of_lt lt_o_am))).other W362 (Ne.symm (Nat.ne_of_lt lt_o_am))).other W367 (Ne.symm (Nat.ne_of_lt lt_o_am)))⟩)
  ·
    refine OwnW.ifcY (pc' := 243) d2_223 ((if0 _ _).trans (flt hc223).2.2.2) (by decide) (by decide) ?_
    refine OwnW.iinc (pc' := 246) (L' := #[.val (.ref o), .val (.ref q0), .val (.ref q1), .val (.int (3 : Int32)), .val (.ref ad3), .val (.ref ad67), .val (.ref am), .val (.ref ad89_0), .val (.int (1 : Int32))]) (d := (1 : Int32)) d2_243 rfl rfl rfl rfl ?_
    refine OwnW.goto (pc' := 212) d2_246 (by decide) (by decide) ?_
    refine OwnW.iload (pc' := 214) d2_212 rfl rfl ?_
    refine OwnW.aloadN (pc' := 215) d2_214 rfl (rfl) rfl ?_
    obtain ⟨cl372, Ar372, qk372, Sz372, Mn372, Hv372, Gf372⟩ := id F91
    refine OwnW.alen (pc' := 216) (x := (4 : Int32)) d2_215 Ar372 (len_of Sz372 Mn372) rfl ?_
    refine OwnW.icmpN (pc' := 219) d2_216 (tlt (by decide)).2.1 rfl ?_
    refine OwnW.aloadN (pc' := 220) d2_219 rfl (rfl) rfl ?_
    refine OwnW.iload (pc' := 222) d2_220 rfl rfl ?_
    obtain ⟨cl373, Ar373, qk373, Sz373, Mn373, Hv373, Gf373⟩ := id F91
    refine OwnW.iaload (pc' := 223) (v := (.int g1)) d2_222 Ar373 (inb_of Sz373 ⟨by decide, by decide⟩) (Hv373.at (inb_of Sz373 ⟨by decide, by decide⟩) rfl) rfl ?_
    by_cases hc223_1 : (0 : Int32) < g1
    ·
      refine OwnW.ifcN (pc' := 226) d2_223 ((if0 _ _).trans (tlt hc223_1).2.2.2) rfl ?_
      refine OwnW.aload (pc' := 228) d2_226 rfl (rfl) rfl ?_
      refine OwnW.aload (pc' := 230) d2_228 rfl (rfl) rfl ?_
      refine OwnW.aloadN (pc' := 231) d2_230 rfl (rfl) rfl ?_
      refine OwnW.iload (pc' := 233) d2_231 rfl rfl ?_
      obtain ⟨cl374, Ar374, qk374, Sz374, Mn374, Hv374, Gf374⟩ := id F91
      refine OwnW.iaload (pc' := 234) (v := (.int g1)) d2_233 Ar374 (inb_of Sz374 ⟨by decide, by decide⟩) (Hv374.at (inb_of Sz374 ⟨by decide, by decide⟩) rfl) rfl ?_
      refine OwnW.dup2 (pc' := 235) d2_234 rfl rfl rfl ?_
      obtain ⟨C375, hC375⟩ : ∃ z : List Int32, z = [(C85.getD 0 0), (C85.getD 1 0), (C85.getD 2 0), (C85.getD 3 0)] := ⟨_, rfl⟩
      have VC375 : Arv Z h89 ad89_0 kc89_0 .int (4 : Int32) (C375.map Value.int) (.int (0 : Int32)) := by rw [hC375]; exact Fc89_0
      have lC375 : C375.length = 4 := by rw [hC375]; rfl
      obtain ⟨cl376, Ar376, qk376, Sz376, Mn376, Hv376, Gf376⟩ := id VC375
      refine OwnW.iaload (pc' := 236) (v := .int (C375.getD g1.toNatClampNeg 0)) d2_235 Ar376 (inb_of Sz376 (own_bd hg1)) (Hv376.at (inb_of Sz376 (own_bd hg1)) (own_gd C375 g1.toNatClampNeg)) rfl ?_
      show GoB2 l Z n0 (Q2 Z o q0 q1 kg ks g0 g1 g2 g3 s0 s1 s2 s3 h0) h89 4 17 236 #[.val (.ref o), .val (.ref q0), .val (.ref q1), .val (.int (3 : Int32)), .val (.ref ad3), .val (.ref ad67), .val (.ref am), .val (.ref ad89_0), .val (.int (1 : Int32))] [(.int (C375.getD g1.toNatClampNeg 0)), (.int g1), (.ref ad89_0), (.ref am)]
      refine OwnW.dupX2 (pc' := 237) d2_236 rfl ?_
      refine OwnW.iconst (pc' := 238) (v := (1 : Int32)) d2_237 rfl rfl ?_
      refine OwnW.iadd (pc' := 239) d2_238 rfl ?_
      obtain ⟨cl377, Ar377, qk377, Sz377, Mn377, Hv377, Gf377⟩ := id VC375
      have bb377 := (own_bd hg1)
      refine OwnW.stI (pc' := 240) d2_239 Ar377 (inb_of Sz377 bb377) ge_ad89_0 rfl ?_
      intro h377 W377
      have sz379 : n0 ≤ h377.size := (by rw [W377.size]; exact sz90)
      obtain ⟨C378, hC378⟩ : ∃ z : List Int32, z = (C375.set g1.toNatClampNeg ((C375.getD g1.toNatClampNeg 0) + (1 : Int32))) := ⟨_, rfl⟩
      have VC378 : Arv Z h377 ad89_0 kc89_0 .int (4 : Int32) (C378.map Value.int) (.int (0 : Int32)) := by rw [hC378, List.map_set]; exact Arv.set Ar377 qk377 Sz377 Mn377 Hv377 Gf377 rfl W377 g1.toNatClampNeg rfl (own_ln (z := (4 : Int32)) lC375 bb377 (by decide))
      have lC378 : C378.length = 4 := by rw [hC378, List.length_set]; exact lC375
      show GoB2 l Z n0 (Q2 Z o q0 q1 kg ks g0 g1 g2 g3 s0 s1 s2 s3 h0) h377 4 17 240 #[.val (.ref o), .val (.ref q0), .val (.ref q1), .val (.int (3 : Int32)), .val (.ref ad3), .val (.ref ad67), .val (.ref am), .val (.ref ad89_0), .val (.int (1 : Int32))] [(.int (C375.getD g1.toNatClampNeg 0)), (.ref am)]
      refine OwnW.iload (pc' := 242) d2_240 rfl rfl ?_
      have F380 := ((VC0.keep K89 nin0).other W377 (Nat.ne_of_lt lt_am_ad89_0))
      obtain ⟨cl381, Ar381, qk381, Sz381, Mn381, Hv381, Gf381⟩ := id F380
      have bb381 := (own_mb8 hg0 hg1 hg2 hg3 hC15 hC18 hC33 hC48 hC63 hC68 hC73 hC79 hC85 hC0 hC375 hC378 htt hc223 hc223_1)
      refine OwnW.stI (pc' := 243) d2_242 Ar381 (inb_of Sz381 bb381) ge_am rfl ?_
      intro h381 W381
      have sz383 : n0 ≤ h381.size := (by rw [W381.size]; exact sz379)
      obtain ⟨C382, hC382⟩ : ∃ z : List Int32, z = (C0.set (C375.getD g1.toNatClampNeg 0).toNatClampNeg (1 : Int32)) := ⟨_, rfl⟩
      have VC382 : Arv Z h381 am km .int tt (C382.map Value.int) (.int (0 : Int32)) := by rw [hC382, List.map_set]; exact Arv.set Ar381 qk381 Sz381 Mn381 Hv381 Gf381 rfl W381 (C375.getD g1.toNatClampNeg 0).toNatClampNeg rfl (own_ln (z := tt) lC0 bb381 rfl)
      have lC382 : C382.length = tt.toNatClampNeg := by rw [hC382, List.length_set]; exact lC0
      show GoB2 l Z n0 (Q2 Z o q0 q1 kg ks g0 g1 g2 g3 s0 s1 s2 s3 h0) h381 4 17 243 #[.val (.ref o), .val (.ref q0), .val (.ref q1), .val (.int (3 : Int32)), .val (.ref ad3), .val (.ref ad67), .val (.ref am), .val (.ref ad89_0), .val (.int (1 : Int32))] []
      refine OwnW.iinc (pc' := 246) (L' := #[.val (.ref o), .val (.ref q0), .val (.ref q1), .val (.int (3 : Int32)), .val (.ref ad3), .val (.ref ad67), .val (.ref am), .val (.ref ad89_0), .val (.int (2 : Int32))]) (d := (1 : Int32)) d2_243 rfl rfl rfl rfl ?_
      refine OwnW.goto (pc' := 212) d2_246 (by decide) (by decide) ?_
      refine OwnW.iload (pc' := 214) d2_212 rfl rfl ?_
      refine OwnW.aloadN (pc' := 215) d2_214 rfl (rfl) rfl ?_
      have F384 := ((F91.other W377 (Nat.ne_of_lt lt_q0_ad89_0)).other W381 (Nat.ne_of_lt lt_q0_am))
      obtain ⟨cl385, Ar385, qk385, Sz385, Mn385, Hv385, Gf385⟩ := id F384
      refine OwnW.alen (pc' := 216) (x := (4 : Int32)) d2_215 Ar385 (len_of Sz385 Mn385) rfl ?_
      refine OwnW.icmpN (pc' := 219) d2_216 (tlt (by decide)).2.1 rfl ?_
      refine OwnW.aloadN (pc' := 220) d2_219 rfl (rfl) rfl ?_
      refine OwnW.iload (pc' := 222) d2_220 rfl rfl ?_
      obtain ⟨cl386, Ar386, qk386, Sz386, Mn386, Hv386, Gf386⟩ := id F384
      refine OwnW.iaload (pc' := 223) (v := (.int g2)) d2_222 Ar386 (inb_of Sz386 ⟨by decide, by decide⟩) (Hv386.at (inb_of Sz386 ⟨by decide, by decide⟩) rfl) rfl ?_
      by_cases hc223_2 : (0 : Int32) < g2
      ·
        refine OwnW.ifcN (pc' := 226) d2_223 ((if0 _ _).trans (tlt hc223_2).2.2.2) rfl ?_
        refine OwnW.aload (pc' := 228) d2_226 rfl (rfl) rfl ?_
        refine OwnW.aload (pc' := 230) d2_228 rfl (rfl) rfl ?_
        refine OwnW.aloadN (pc' := 231) d2_230 rfl (rfl) rfl ?_
        refine OwnW.iload (pc' := 233) d2_231 rfl rfl ?_
        obtain ⟨cl387, Ar387, qk387, Sz387, Mn387, Hv387, Gf387⟩ := id F384
        refine OwnW.iaload (pc' := 234) (v := (.int g2)) d2_233 Ar387 (inb_of Sz387 ⟨by decide, by decide⟩) (Hv387.at (inb_of Sz387 ⟨by decide, by decide⟩) rfl) rfl ?_
        refine OwnW.dup2 (pc' := 235) d2_234 rfl rfl rfl ?_
        have F388 := (VC378.other W381 (Ne.symm (Nat.ne_of_lt lt_am_ad89_0)))
        obtain ⟨cl389, Ar389, qk389, Sz389, Mn389, Hv389, Gf389⟩ := id F388
        refine OwnW.iaload (pc' := 236) (v := .int (C378.getD g2.toNatClampNeg 0)) d2_235 Ar389 (inb_of Sz389 (own_bd hg2)) (Hv389.at (inb_of Sz389 (own_bd hg2)) (own_gd C378 g2.toNatClampNeg)) rfl ?_
        show GoB2 l Z n0 (Q2 Z o q0 q1 kg ks g0 g1 g2 g3 s0 s1 s2 s3 h0) h381 4 17 236 #[.val (.ref o), .val (.ref q0), .val (.ref q1), .val (.int (3 : Int32)), .val (.ref ad3), .val (.ref ad67), .val (.ref am), .val (.ref ad89_0), .val (.int (2 : Int32))] [(.int (C378.getD g2.toNatClampNeg 0)), (.int g2), (.ref ad89_0), (.ref am)]
        refine OwnW.dupX2 (pc' := 237) d2_236 rfl ?_
        refine OwnW.iconst (pc' := 238) (v := (1 : Int32)) d2_237 rfl rfl ?_
        refine OwnW.iadd (pc' := 239) d2_238 rfl ?_
        obtain ⟨cl390, Ar390, qk390, Sz390, Mn390, Hv390, Gf390⟩ := id F388
        have bb390 := (own_bd hg2)
        refine OwnW.stI (pc' := 240) d2_239 Ar390 (inb_of Sz390 bb390) ge_ad89_0 rfl ?_
        intro h390 W390
        have sz392 : n0 ≤ h390.size := (by rw [W390.size]; exact sz383)
        obtain ⟨C391, hC391⟩ : ∃ z : List Int32, z = (C378.set g2.toNatClampNeg ((C378.getD g2.toNatClampNeg 0) + (1 : Int32))) := ⟨_, rfl⟩
        have VC391 : Arv Z h390 ad89_0 kc89_0 .int (4 : Int32) (C391.map Value.int) (.int (0 : Int32)) := by rw [hC391, List.map_set]; exact Arv.set Ar390 qk390 Sz390 Mn390 Hv390 Gf390 rfl W390 g2.toNatClampNeg rfl (own_ln (z := (4 : Int32)) lC378 bb390 (by decide))
        have lC391 : C391.length = 4 := by rw [hC391, List.length_set]; exact lC378
        show GoB2 l Z n0 (Q2 Z o q0 q1 kg ks g0 g1 g2 g3 s0 s1 s2 s3 h0) h390 4 17 240 #[.val (.ref o), .val (.ref q0), .val (.ref q1), .val (.int (3 : Int32)), .val (.ref ad3), .val (.ref ad67), .val (.ref am), .val (.ref ad89_0), .val (.int (2 : Int32))] [(.int (C378.getD g2.toNatClampNeg 0)), (.ref am)]
        refine OwnW.iload (pc' := 242) d2_240 rfl rfl ?_
        have F393 := (VC382.other W390 (Nat.ne_of_lt lt_am_ad89_0))
        obtain ⟨cl394, Ar394, qk394, Sz394, Mn394, Hv394, Gf394⟩ := id F393
        have bb394 := (own_mb9 hg0 hg1 hg2 hg3 hC15 hC18 hC33 hC48 hC63 hC68 hC73 hC79 hC85 hC0 hC375 hC378 hC382 hC391 htt hc223 hc223_1 hc223_2)
        refine OwnW.stI (pc' := 243) d2_242 Ar394 (inb_of Sz394 bb394) ge_am rfl ?_
        intro h394 W394
        have sz396 : n0 ≤ h394.size := (by rw [W394.size]; exact sz392)
        obtain ⟨C395, hC395⟩ : ∃ z : List Int32, z = (C382.set (C378.getD g2.toNatClampNeg 0).toNatClampNeg (2 : Int32)) := ⟨_, rfl⟩
        have VC395 : Arv Z h394 am km .int tt (C395.map Value.int) (.int (0 : Int32)) := by rw [hC395, List.map_set]; exact Arv.set Ar394 qk394 Sz394 Mn394 Hv394 Gf394 rfl W394 (C378.getD g2.toNatClampNeg 0).toNatClampNeg rfl (own_ln (z := tt) lC382 bb394 rfl)
        have lC395 : C395.length = tt.toNatClampNeg := by rw [hC395, List.length_set]; exact lC382
        show GoB2 l Z n0 (Q2 Z o q0 q1 kg ks g0 g1 g2 g3 s0 s1 s2 s3 h0) h394 4 17 243 #[.val (.ref o), .val (.ref q0), .val (.ref q1), .val (.int (3 : Int32)), .val (.ref ad3), .val (.ref ad67), .val (.ref am), .val (.ref ad89_0), .val (.int (2 : Int32))] []
        refine OwnW.iinc (pc' := 246) (L' := #[.val (.ref o), .val (.ref q0), .val (.ref q1), .val (.int (3 : Int32)), .val (.ref ad3), .val (.ref ad67), .val (.ref am), .val (.ref ad89_0), .val (.int (3 : Int32))]) (d := (1 : Int32)) d2_243 rfl rfl rfl rfl ?_
        refine OwnW.goto (pc' := 212) d2_246 (by decide) (by decide) ?_
        refine OwnW.iload (pc' := 214) d2_212 rfl rfl ?_
        refine OwnW.aloadN (pc' := 215) d2_214 rfl (rfl) rfl ?_
        have F397 := ((F384.other W390 (Nat.ne_of_lt lt_q0_ad89_0)).other W394 (Nat.ne_of_lt lt_q0_am))
        obtain ⟨cl398, Ar398, qk398, Sz398, Mn398, Hv398, Gf398⟩ := id F397
        refine OwnW.alen (pc' := 216) (x := (4 : Int32)) d2_215 Ar398 (len_of Sz398 Mn398) rfl ?_
        refine OwnW.icmpN (pc' := 219) d2_216 (tlt (by decide)).2.1 rfl ?_
        refine OwnW.aloadN (pc' := 220) d2_219 rfl (rfl) rfl ?_
        refine OwnW.iload (pc' := 222) d2_220 rfl rfl ?_
        obtain ⟨cl399, Ar399, qk399, Sz399, Mn399, Hv399, Gf399⟩ := id F397
        refine OwnW.iaload (pc' := 223) (v := (.int g3)) d2_222 Ar399 (inb_of Sz399 ⟨by decide, by decide⟩) (Hv399.at (inb_of Sz399 ⟨by decide, by decide⟩) rfl) rfl ?_
        by_cases hc223_3 : (0 : Int32) < g3
        ·
          refine OwnW.ifcN (pc' := 226) d2_223 ((if0 _ _).trans (tlt hc223_3).2.2.2) rfl ?_
          refine OwnW.aload (pc' := 228) d2_226 rfl (rfl) rfl ?_
          refine OwnW.aload (pc' := 230) d2_228 rfl (rfl) rfl ?_
          refine OwnW.aloadN (pc' := 231) d2_230 rfl (rfl) rfl ?_
          refine OwnW.iload (pc' := 233) d2_231 rfl rfl ?_
          obtain ⟨cl400, Ar400, qk400, Sz400, Mn400, Hv400, Gf400⟩ := id F397
          refine OwnW.iaload (pc' := 234) (v := (.int g3)) d2_233 Ar400 (inb_of Sz400 ⟨by decide, by decide⟩) (Hv400.at (inb_of Sz400 ⟨by decide, by decide⟩) rfl) rfl ?_
          refine OwnW.dup2 (pc' := 235) d2_234 rfl rfl rfl ?_
          have F401 := (VC391.other W394 (Ne.symm (Nat.ne_of_lt lt_am_ad89_0)))
          obtain ⟨cl402, Ar402, qk402, Sz402, Mn402, Hv402, Gf402⟩ := id F401
          refine OwnW.iaload (pc' := 236) (v := .int (C391.getD g3.toNatClampNeg 0)) d2_235 Ar402 (inb_of Sz402 (own_bd hg3)) (Hv402.at (inb_of Sz402 (own_bd hg3)) (own_gd C391 g3.toNatClampNeg)) rfl ?_
          show GoB2 l Z n0 (Q2 Z o q0 q1 kg ks g0 g1 g2 g3 s0 s1 s2 s3 h0) h394 4 17 236 #[.val (.ref o), .val (.ref q0), .val (.ref q1), .val (.int (3 : Int32)), .val (.ref ad3), .val (.ref ad67), .val (.ref am), .val (.ref ad89_0), .val (.int (3 : Int32))] [(.int (C391.getD g3.toNatClampNeg 0)), (.int g3), (.ref ad89_0), (.ref am)]
          refine OwnW.dupX2 (pc' := 237) d2_236 rfl ?_
          refine OwnW.iconst (pc' := 238) (v := (1 : Int32)) d2_237 rfl rfl ?_
          refine OwnW.iadd (pc' := 239) d2_238 rfl ?_
          obtain ⟨cl403, Ar403, qk403, Sz403, Mn403, Hv403, Gf403⟩ := id F401
          have bb403 := (own_bd hg3)
          refine OwnW.stI (pc' := 240) d2_239 Ar403 (inb_of Sz403 bb403) ge_ad89_0 rfl ?_
          intro h403 W403
          have sz405 : n0 ≤ h403.size := (by rw [W403.size]; exact sz396)
          obtain ⟨C404, hC404⟩ : ∃ z : List Int32, z = (C391.set g3.toNatClampNeg ((C391.getD g3.toNatClampNeg 0) + (1 : Int32))) := ⟨_, rfl⟩
          have VC404 : Arv Z h403 ad89_0 kc89_0 .int (4 : Int32) (C404.map Value.int) (.int (0 : Int32)) := by rw [hC404, List.map_set]; exact Arv.set Ar403 qk403 Sz403 Mn403 Hv403 Gf403 rfl W403 g3.toNatClampNeg rfl (own_ln (z := (4 : Int32)) lC391 bb403 (by decide))
          have lC404 : C404.length = 4 := by rw [hC404, List.length_set]; exact lC391
          show GoB2 l Z n0 (Q2 Z o q0 q1 kg ks g0 g1 g2 g3 s0 s1 s2 s3 h0) h403 4 17 240 #[.val (.ref o), .val (.ref q0), .val (.ref q1), .val (.int (3 : Int32)), .val (.ref ad3), .val (.ref ad67), .val (.ref am), .val (.ref ad89_0), .val (.int (3 : Int32))] [(.int (C391.getD g3.toNatClampNeg 0)), (.ref am)]
          refine OwnW.iload (pc' := 242) d2_240 rfl rfl ?_
          have F406 := (VC395.other W403 (Nat.ne_of_lt lt_am_ad89_0))
          obtain ⟨cl407, Ar407, qk407, Sz407, Mn407, Hv407, Gf407⟩ := id F406
          have bb407 := (own_mb10 hg0 hg1 hg2 hg3 hC15 hC18 hC33 hC48 hC63 hC68 hC73 hC79 hC85 hC0 hC375 hC378 hC382 hC391 hC395 hC404 htt hc223 hc223_1 hc223_2 hc223_3)
          refine OwnW.stI (pc' := 243) d2_242 Ar407 (inb_of Sz407 bb407) ge_am rfl ?_
          intro h407 W407
          have sz409 : n0 ≤ h407.size := (by rw [W407.size]; exact sz405)
          obtain ⟨C408, hC408⟩ : ∃ z : List Int32, z = (C395.set (C391.getD g3.toNatClampNeg 0).toNatClampNeg (3 : Int32)) := ⟨_, rfl⟩
          have VC408 : Arv Z h407 am km .int tt (C408.map Value.int) (.int (0 : Int32)) := by rw [hC408, List.map_set]; exact Arv.set Ar407 qk407 Sz407 Mn407 Hv407 Gf407 rfl W407 (C391.getD g3.toNatClampNeg 0).toNatClampNeg rfl (own_ln (z := tt) lC395 bb407 rfl)
          have lC408 : C408.length = tt.toNatClampNeg := by rw [hC408, List.length_set]; exact lC395
          show GoB2 l Z n0 (Q2 Z o q0 q1 kg ks g0 g1 g2 g3 s0 s1 s2 s3 h0) h407 4 17 243 #[.val (.ref o), .val (.ref q0), .val (.ref q1), .val (.int (3 : Int32)), .val (.ref ad3), .val (.ref ad67), .val (.ref am), .val (.ref ad89_0), .val (.int (3 : Int32))] []
          refine OwnW.iinc (pc' := 246) (L' := #[.val (.ref o), .val (.ref q0), .val (.ref q1), .val (.int (3 : Int32)), .val (.ref ad3), .val (.ref ad67), .val (.ref am), .val (.ref ad89_0), .val (.int (4 : Int32))]) (d := (1 : Int32)) d2_243 rfl rfl rfl rfl ?_
          refine OwnW.goto (pc' := 212) d2_246 (by decide) (by decide) ?_
          refine OwnW.iload (pc' := 214) d2_212 rfl rfl ?_
          refine OwnW.aloadN (pc' := 215) d2_214 rfl (rfl) rfl ?_
          have F410 := ((F397.other W403 (Nat.ne_of_lt lt_q0_ad89_0)).other W407 (Nat.ne_of_lt lt_q0_am))
          obtain ⟨cl411, Ar411, qk411, Sz411, Mn411, Hv411, Gf411⟩ := id F410
          refine OwnW.alen (pc' := 216) (x := (4 : Int32)) d2_215 Ar411 (len_of Sz411 Mn411) rfl ?_
          refine OwnW.icmpY (pc' := 249) d2_216 (flt (by decide)).2.1 (by decide) (by decide) ?_
          have he := own_end8 hg0 hg1 hg2 hg3 hC15 hC18 hC33 hC48 hC63 hC68 hC73 hC79 hC85 hC0 hC375 hC378 hC382 hC391 hC395 hC404 hC408 htt hc223 hc223_1 hc223_2 hc223_3
          have F412 := (((((((F88.keep K89 nin0).other W377 (Nat.ne_of_lt lt_ad67_ad89_0)).other W381 (Nat.ne_of_lt lt_ad67_am)).other W390 (Nat.ne_of_lt lt_ad67_ad89_0)).other W394 (Nat.ne_of_lt lt_ad67_am)).other W403 (Nat.ne_of_lt lt_ad67_ad89_0)).other W407 (Nat.ne_of_lt lt_ad67_am))
          have VE1 : Arv Z h407 ad67 kc67 .int (5 : Int32) ((own_SL g0 g1 g2 g3).map Value.int) (.int (0 : Int32)) := by rw [← he.1]; exact F412
          have VE2 : Arv Z h407 am km .int (own_T g0 g1 g2 g3) ((own_ML g0 g1 g2 g3).map Value.int) (.int (0 : Int32)) := by rw [← he.2.1, ← ht2.2.2]; exact VC408
          refine OwnW.aloadN (pc' := 250) d2_249 rfl (rfl) rfl ?_
          refine OwnW.aloadN (pc' := 251) d2_250 rfl (rfl) rfl ?_
          have F414 := (((((((((((((((((F_groups.ext E3).other W17 (Or.inl (Nat.ne_of_lt lt_o_ad3))).other W32 (Or.inl (Nat.ne_of_lt lt_o_ad3))).other W47 (Or.inl (Nat.ne_of_lt lt_o_ad3))).other W62 (Or.inl (Nat.ne_of_lt lt_o_ad3))).ext E67).other W72 (Or.inl (Nat.ne_of_lt lt_o_ad67))).other W78 (Or.inl (Nat.ne_of_lt lt_o_ad67))).other W84 (Or.inl (Nat.ne_of_lt lt_o_ad67))).ext Em).keep K89 nin0).other W377 (Or.inl (Nat.ne_of_lt lt_o_ad89_0))).other W381 (Or.inl (Nat.ne_of_lt lt_o_am))).other W390 (Or.inl (Nat.ne_of_lt lt_o_ad89_0))).other W394 (Or.inl (Nat.ne_of_lt lt_o_am))).other W403 (Or.inl (Nat.ne_of_lt lt_o_ad89_0))).other W407 (Or.inl (Nat.ne_of_lt lt_o_am)))
          have F415 := (((((((((((((((((E_o.ext E3).wr W17).wr W32).wr W47).wr W62).ext E67).wr W72).wr W78).wr W84).ext Em).keep K89).wr W377).wr W381).wr W390).wr W394).wr W403).wr W407)
          refine OwnW.putF (a0 := a0) (pc' := 254) d2_251 (host := "") (Or.inl (hw _ (List.mem_of_getElem? (i := 27) rfl))) Via.refl F414 F415 (Or.inr ⟨(hw _ (List.mem_of_getElem? (i := 28) rfl)), rfl, rfl⟩) (hw _ (List.mem_of_getElem? (i := 7) rfl)) (ty := (.array .int)) (by decide) rfl rfl g_o rfl ?_
          intro h413 W413
          have sz416 : n0 ≤ h413.size := (by rw [W413.size]; exact sz409)
          have F417 := F414.same W413
          refine OwnW.aloadN (pc' := 255) d2_254 rfl (rfl) rfl ?_
          refine OwnW.aloadN (pc' := 256) d2_255 rfl (rfl) rfl ?_
          have F419 := ((((((((((((((((((F_shares.ext E3).other W17 (Or.inl (Nat.ne_of_lt lt_o_ad3))).other W32 (Or.inl (Nat.ne_of_lt lt_o_ad3))).other W47 (Or.inl (Nat.ne_of_lt lt_o_ad3))).other W62 (Or.inl (Nat.ne_of_lt lt_o_ad3))).ext E67).other W72 (Or.inl (Nat.ne_of_lt lt_o_ad67))).other W78 (Or.inl (Nat.ne_of_lt lt_o_ad67))).other W84 (Or.inl (Nat.ne_of_lt lt_o_ad67))).ext Em).keep K89 nin0).other W377 (Or.inl (Nat.ne_of_lt lt_o_ad89_0))).other W381 (Or.inl (Nat.ne_of_lt lt_o_am))).other W390 (Or.inl (Nat.ne_of_lt lt_o_ad89_0))).other W394 (Or.inl (Nat.ne_of_lt lt_o_am))).other W403 (Or.inl (Nat.ne_of_lt lt_o_ad89_0))).other W407 (Or.inl (Nat.ne_of_lt lt_o_am))).other W413 (Or.inr (slot_ne (a0 := a0) (C := "com/example/sieve_for_links/sieveforlinks/VirtualLinks") (Or.inr (hw _ (List.mem_of_getElem? (i := 30) rfl))) (Or.inr (hw _ (List.mem_of_getElem? (i := 28) rfl))) (by decide) (t := (.array .double)) (t' := (.array .int)) (by decide) (by decide))))
          have F420 := (F415.wr W413)
          refine OwnW.putF (a0 := a0) (pc' := 259) d2_256 (host := "") (Or.inl (hw _ (List.mem_of_getElem? (i := 29) rfl))) Via.refl F419 F420 (Or.inr ⟨(hw _ (List.mem_of_getElem? (i := 30) rfl)), rfl, rfl⟩) (hw _ (List.mem_of_getElem? (i := 7) rfl)) (ty := (.array .double)) (by decide) rfl rfl g_o rfl ?_
          intro h418 W418
          have sz421 : n0 ≤ h418.size := (by rw [W418.size]; exact sz416)
          have F422 := F419.same W418
          refine OwnW.aloadN (pc' := 260) d2_259 rfl (rfl) rfl ?_
          refine OwnW.aload (pc' := 262) d2_260 rfl (rfl) rfl ?_
          have F424 := (((((((((((((((((((F_members.ext E3).other W17 (Or.inl (Nat.ne_of_lt lt_o_ad3))).other W32 (Or.inl (Nat.ne_of_lt lt_o_ad3))).other W47 (Or.inl (Nat.ne_of_lt lt_o_ad3))).other W62 (Or.inl (Nat.ne_of_lt lt_o_ad3))).ext E67).other W72 (Or.inl (Nat.ne_of_lt lt_o_ad67))).other W78 (Or.inl (Nat.ne_of_lt lt_o_ad67))).other W84 (Or.inl (Nat.ne_of_lt lt_o_ad67))).ext Em).keep K89 nin0).other W377 (Or.inl (Nat.ne_of_lt lt_o_ad89_0))).other W381 (Or.inl (Nat.ne_of_lt lt_o_am))).other W390 (Or.inl (Nat.ne_of_lt lt_o_ad89_0))).other W394 (Or.inl (Nat.ne_of_lt lt_o_am))).other W403 (Or.inl (Nat.ne_of_lt lt_o_ad89_0))).other W407 (Or.inl (Nat.ne_of_lt lt_o_am))).other W413 (Or.inr (slot_ne (a0 := a0) (C := "com/example/sieve_for_links/sieveforlinks/VirtualLinks") (Or.inr (hw _ (List.mem_of_getElem? (i := 32) rfl))) (Or.inr (hw _ (List.mem_of_getElem? (i := 28) rfl))) (by decide) (t := (.array .int)) (t' := (.array .int)) (by decide) (by decide)))).other W418 (Or.inr (slot_ne (a0 := a0) (C := "com/example/sieve_for_links/sieveforlinks/VirtualLinks") (Or.inr (hw _ (List.mem_of_getElem? (i := 32) rfl))) (Or.inr (hw _ (List.mem_of_getElem? (i := 30) rfl))) (by decide) (t := (.array .int)) (t' := (.array .double)) (by decide) (by decide))))
          have F425 := (F420.wr W418)
          refine OwnW.putF (a0 := a0) (pc' := 265) d2_262 (host := "") (Or.inl (hw _ (List.mem_of_getElem? (i := 31) rfl))) Via.refl F424 F425 (Or.inr ⟨(hw _ (List.mem_of_getElem? (i := 32) rfl)), rfl, rfl⟩) (hw _ (List.mem_of_getElem? (i := 7) rfl)) (ty := (.array .int)) (by decide) rfl rfl g_o rfl ?_
          intro h423 W423
          have sz426 : n0 ≤ h423.size := (by rw [W423.size]; exact sz421)
          have F427 := F424.same W423
          refine OwnW.aloadN (pc' := 266) d2_265 rfl (rfl) rfl ?_
          refine OwnW.aload (pc' := 268) d2_266 rfl (rfl) rfl ?_
          have F429 := ((((((((((((((((((((F_memberStarts.ext E3).other W17 (Or.inl (Nat.ne_of_lt lt_o_ad3))).other W32 (Or.inl (Nat.ne_of_lt lt_o_ad3))).other W47 (Or.inl (Nat.ne_of_lt lt_o_ad3))).other W62 (Or.inl (Nat.ne_of_lt lt_o_ad3))).ext E67).other W72 (Or.inl (Nat.ne_of_lt lt_o_ad67))).other W78 (Or.inl (Nat.ne_of_lt lt_o_ad67))).other W84 (Or.inl (Nat.ne_of_lt lt_o_ad67))).ext Em).keep K89 nin0).other W377 (Or.inl (Nat.ne_of_lt lt_o_ad89_0))).other W381 (Or.inl (Nat.ne_of_lt lt_o_am))).other W390 (Or.inl (Nat.ne_of_lt lt_o_ad89_0))).other W394 (Or.inl (Nat.ne_of_lt lt_o_am))).other W403 (Or.inl (Nat.ne_of_lt lt_o_ad89_0))).other W407 (Or.inl (Nat.ne_of_lt lt_o_am))).other W413 (Or.inr (slot_ne (a0 := a0) (C := "com/example/sieve_for_links/sieveforlinks/VirtualLinks") (Or.inr (hw _ (List.mem_of_getElem? (i := 34) rfl))) (Or.inr (hw _ (List.mem_of_getElem? (i := 28) rfl))) (by decide) (t := (.array .int)) (t' := (.array .int)) (by decide) (by decide)))).other W418 (Or.inr (slot_ne (a0 := a0) (C := "com/example/sieve_for_links/sieveforlinks/VirtualLinks") (Or.inr (hw _ (List.mem_of_getElem? (i := 34) rfl))) (Or.inr (hw _ (List.mem_of_getElem? (i := 30) rfl))) (by decide) (t := (.array .int)) (t' := (.array .double)) (by decide) (by decide)))).other W423 (Or.inr (slot_ne (a0 := a0) (C := "com/example/sieve_for_links/sieveforlinks/VirtualLinks") (Or.inr (hw _ (List.mem_of_getElem? (i := 34) rfl))) (Or.inr (hw _ (List.mem_of_getElem? (i := 32) rfl))) (by decide) (t := (.array .int)) (t' := (.array .int)) (by decide) (by decide))))
          have F430 := (F425.wr W423)
          refine OwnW.putF (a0 := a0) (pc' := 271) d2_268 (host := "") (Or.inl (hw _ (List.mem_of_getElem? (i := 33) rfl))) Via.refl F429 F430 (Or.inr ⟨(hw _ (List.mem_of_getElem? (i := 34) rfl)), rfl, rfl⟩) (hw _ (List.mem_of_getElem? (i := 7) rfl)) (ty := (.array .int)) (by decide) rfl rfl g_o rfl ?_
          intro h428 W428
          have sz431 : n0 ≤ h428.size := (by rw [W428.size]; exact sz426)
          have F432 := F429.same W428
          exact OwnW.ret0 d2_271 rfl (by decide) (by decide) (⟨ad67, am, kc67, km, rfl, ((((((((((((((((((((((Keep.refl h0 [o]).ext E3).wr W17 (Or.inr (Nat.le_trans (Nat.le_refl _) (Nat.le_of_eq gq3.symm)))).wr W32 (Or.inr (Nat.le_trans (Nat.le_refl _) (Nat.le_of_eq gq3.symm)))).wr W47 (Or.inr (Nat.le_trans (Nat.le_refl _) (Nat.le_of_eq gq3.symm)))).wr W62 (Or.inr (Nat.le_trans (Nat.le_refl _) (Nat.le_of_eq gq3.symm)))).ext E67).wr W72 (Or.inr (Nat.le_trans (Nat.le_trans (Nat.le_trans (Nat.le_trans (Nat.le_trans (Nat.le_trans (Nat.le_refl _) E3.1) (Nat.le_of_eq W17.size.symm)) (Nat.le_of_eq W32.size.symm)) (Nat.le_of_eq W47.size.symm)) (Nat.le_of_eq W62.size.symm)) (Nat.le_of_eq gq67.symm)))).wr W78 (Or.inr (Nat.le_trans (Nat.le_trans (Nat.le_trans (Nat.le_trans (Nat.le_trans (Nat.le_trans (Nat.le_refl _) E3.1) (Nat.le_of_eq W17.size.symm)) (Nat.le_of_eq W32.size.symm)) (Nat.le_of_eq W47.size.symm)) (Nat.le_of_eq W62.size.symm)) (Nat.le_of_eq gq67.symm)))).wr W84 (Or.inr (Nat.le_trans (Nat.le_trans (Nat.le_trans (Nat.le_trans (Nat.le_trans (Nat.le_trans (Nat.le_refl _) E3.1) (Nat.le_of_eq W17.size.symm)) (Nat.le_of_eq W32.size.symm)) (Nat.le_of_eq W47.size.symm)) (Nat.le_of_eq W62.size.symm)) (Nat.le_of_eq gq67.symm)))).ext Em).trans K89 all0).wr W377 (Or.inr (Nat.le_trans (Nat.le_trans (Nat.le_trans (Nat.le_trans (Nat.le_trans (Nat.le_trans (Nat.le_trans (Nat.le_trans (Nat.le_trans (Nat.le_trans (Nat.le_trans (Nat.le_refl _) E3.1) (Nat.le_of_eq W17.size.symm)) (Nat.le_of_eq W32.size.symm)) (Nat.le_of_eq W47.size.symm)) (Nat.le_of_eq W62.size.symm)) E67.1) (Nat.le_of_eq W72.size.symm)) (Nat.le_of_eq W78.size.symm)) (Nat.le_of_eq W84.size.symm)) Em.1) gl89_0))).wr W381 (Or.inr (Nat.le_trans (Nat.le_trans (Nat.le_trans (Nat.le_trans (Nat.le_trans (Nat.le_trans (Nat.le_trans (Nat.le_trans (Nat.le_trans (Nat.le_trans (Nat.le_refl _) E3.1) (Nat.le_of_eq W17.size.symm)) (Nat.le_of_eq W32.size.symm)) (Nat.le_of_eq W47.size.symm)) (Nat.le_of_eq W62.size.symm)) E67.1) (Nat.le_of_eq W72.size.symm)) (Nat.le_of_eq W78.size.symm)) (Nat.le_of_eq W84.size.symm)) (Nat.le_of_eq gm.symm)))).wr W390 (Or.inr (Nat.le_trans (Nat.le_trans (Nat.le_trans (Nat.le_trans (Nat.le_trans (Nat.le_trans (Nat.le_trans (Nat.le_trans (Nat.le_trans (Nat.le_trans (Nat.le_trans (Nat.le_refl _) E3.1) (Nat.le_of_eq W17.size.symm)) (Nat.le_of_eq W32.size.symm)) (Nat.le_of_eq W47.size.symm)) (Nat.le_of_eq W62.size.symm)) E67.1) (Nat.le_of_eq W72.size.symm)) (Nat.le_of_eq W78.size.symm)) (Nat.le_of_eq W84.size.symm)) Em.1) gl89_0))).wr W394 (Or.inr (Nat.le_trans (Nat.le_trans (Nat.le_trans (Nat.le_trans (Nat.le_trans (Nat.le_trans (Nat.le_trans (Nat.le_trans (Nat.le_trans (Nat.le_trans (Nat.le_refl _) E3.1) (Nat.le_of_eq W17.size.symm)) (Nat.le_of_eq W32.size.symm)) (Nat.le_of_eq W47.size.symm)) (Nat.le_of_eq W62.size.symm)) E67.1) (Nat.le_of_eq W72.size.symm)) (Nat.le_of_eq W78.size.symm)) (Nat.le_of_eq W84.size.symm)) (Nat.le_of_eq gm.symm)))).wr W403 (Or.inr (Nat.le_trans (Nat.le_trans (Nat.le_trans (Nat.le_trans (Nat.le_trans (Nat.le_trans (Nat.le_trans (Nat.le_trans (Nat.le_trans (Nat.le_trans (Nat.le_trans (Nat.le_refl _) E3.1) (Nat.le_of_eq W17.size.symm)) (Nat.le_of_eq W32.size.symm)) (Nat.le_of_eq W47.size.symm)) (Nat.le_of_eq W62.size.symm)) E67.1) (Nat.le_of_eq W72.size.symm)) (Nat.le_of_eq W78.size.symm)) (Nat.le_of_eq W84.size.symm)) Em.1) gl89_0))).wr W407 (Or.inr (Nat.le_trans (Nat.le_trans (Nat.le_trans (Nat.le_trans (Nat.le_trans (Nat.le_trans (Nat.le_trans (Nat.le_trans (Nat.le_trans (Nat.le_trans (Nat.le_refl _) E3.1) (Nat.le_of_eq W17.size.symm)) (Nat.le_of_eq W32.size.symm)) (Nat.le_of_eq W47.size.symm)) (Nat.le_of_eq W62.size.symm)) E67.1) (Nat.le_of_eq W72.size.symm)) (Nat.le_of_eq W78.size.symm)) (Nat.le_of_eq W84.size.symm)) (Nat.le_of_eq gm.symm)))).wr W413 (Or.inl (List.mem_of_getElem? (i := 0) rfl))).wr W418 (Or.inl (List.mem_of_getElem? (i := 0) rfl))).wr W423 (Or.inl (List.mem_of_getElem? (i := 0) rfl))).wr W428 (Or.inl (List.mem_of_getElem? (i := 0) rfl))), (Nat.le_trans (Nat.le_trans (Nat.le_trans (Nat.le_trans (Nat.le_trans (Nat.le_trans (Nat.le_refl _) E3.1) (Nat.le_of_eq W17.size.symm)) (Nat.le_of_eq W32.size.symm)) (Nat.le_of_eq W47.size.symm)) (Nat.le_of_eq W62.size.symm)) (Nat.le_of_eq gq67.symm)), (Nat.le_trans (Nat.le_trans (Nat.le_trans (Nat.le_trans (Nat.le_trans (Nat.le_trans (Nat.le_trans (Nat.le_trans (Nat.le_trans (Nat.le_trans (Nat.le_refl _) E3.1) (Nat.le_of_eq W17.size.symm)) (Nat.le_of_eq W32.size.symm)) (Nat.le_of_eq W47.size.symm)) (Nat.le_of_eq W62.size.symm)) E67.1) (Nat.le_of_eq W72.size.symm)) (Nat.le_of_eq W78.size.symm)) (Nat.le_of_eq W84.size.symm)) (Nat.le_of_eq gm.symm)), (Nat.ne_of_lt lt_ad67_am), (F430.wr W428), ((F422.other W423 (Or.inr (slot_ne (a0 := a0) (C := "com/example/sieve_for_links/sieveforlinks/VirtualLinks") (Or.inr (hw _ (List.mem_of_getElem? (i := 30) rfl))) (Or.inr (hw _ (List.mem_of_getElem? (i := 32) rfl))) (by decide) (t := (.array .double)) (t' := (.array .int)) (by decide) (by decide)))).other W428 (Or.inr (slot_ne (a0 := a0) (C := "com/example/sieve_for_links/sieveforlinks/VirtualLinks") (Or.inr (hw _ (List.mem_of_getElem? (i := 30) rfl))) (Or.inr (hw _ (List.mem_of_getElem? (i := 34) rfl))) (by decide) (t := (.array .double)) (t' := (.array .int)) (by decide) (by decide)))), (F427.other W428 (Or.inr (slot_ne (a0 := a0) (C := "com/example/sieve_for_links/sieveforlinks/VirtualLinks") (Or.inr (hw _ (List.mem_of_getElem? (i := 32) rfl))) (Or.inr (hw _ (List.mem_of_getElem? (i := 34) rfl))) (by decide) (t := (.array .int)) (t' := (.array .int)) (by decide) (by decide)))), F432, ((((VE1.other W413 (Ne.symm (Nat.ne_of_lt lt_o_ad67))).other W418 (Ne.symm (Nat.ne_of_lt lt_o_ad67))).other W423 (Ne.symm (Nat.ne_of_lt lt_o_ad67))).other W428 (Ne.symm (Nat.ne_of_lt lt_o_ad67))), ((((VE2.other W413 (Ne.symm (Nat.ne_of_lt lt_o_am))).other W418 (Ne.symm (Nat.ne_of_lt lt_o_am))).other W423 (Ne.symm (Nat.ne_of_lt lt_o_am))).other W428 (Ne.symm (Nat.ne_of_lt lt_o_am)))⟩)
        ·
          refine OwnW.ifcY (pc' := 243) d2_223 ((if0 _ _).trans (flt hc223_3).2.2.2) (by decide) (by decide) ?_
          refine OwnW.iinc (pc' := 246) (L' := #[.val (.ref o), .val (.ref q0), .val (.ref q1), .val (.int (3 : Int32)), .val (.ref ad3), .val (.ref ad67), .val (.ref am), .val (.ref ad89_0), .val (.int (4 : Int32))]) (d := (1 : Int32)) d2_243 rfl rfl rfl rfl ?_
          refine OwnW.goto (pc' := 212) d2_246 (by decide) (by decide) ?_
          refine OwnW.iload (pc' := 214) d2_212 rfl rfl ?_
          refine OwnW.aloadN (pc' := 215) d2_214 rfl (rfl) rfl ?_
          obtain ⟨cl433, Ar433, qk433, Sz433, Mn433, Hv433, Gf433⟩ := id F397
          refine OwnW.alen (pc' := 216) (x := (4 : Int32)) d2_215 Ar433 (len_of Sz433 Mn433) rfl ?_
          refine OwnW.icmpY (pc' := 249) d2_216 (flt (by decide)).2.1 (by decide) (by decide) ?_
          have he := own_end9 hg0 hg1 hg2 hg3 hC15 hC18 hC33 hC48 hC63 hC68 hC73 hC79 hC85 hC0 hC375 hC378 hC382 hC391 hC395 htt hc223 hc223_1 hc223_2 hc223_3
          have F434 := (((((F88.keep K89 nin0).other W377 (Nat.ne_of_lt lt_ad67_ad89_0)).other W381 (Nat.ne_of_lt lt_ad67_am)).other W390 (Nat.ne_of_lt lt_ad67_ad89_0)).other W394 (Nat.ne_of_lt lt_ad67_am))
          have VE1 : Arv Z h394 ad67 kc67 .int (5 : Int32) ((own_SL g0 g1 g2 g3).map Value.int) (.int (0 : Int32)) := by rw [← he.1]; exact F434
          have VE2 : Arv Z h394 am km .int (own_T g0 g1 g2 g3) ((own_ML g0 g1 g2 g3).map Value.int) (.int (0 : Int32)) := by rw [← he.2.1, ← ht2.2.2]; exact VC395
          refine OwnW.aloadN (pc' := 250) d2_249 rfl (rfl) rfl ?_
          refine OwnW.aloadN (pc' := 251) d2_250 rfl (rfl) rfl ?_
          have F436 := (((((((((((((((F_groups.ext E3).other W17 (Or.inl (Nat.ne_of_lt lt_o_ad3))).other W32 (Or.inl (Nat.ne_of_lt lt_o_ad3))).other W47 (Or.inl (Nat.ne_of_lt lt_o_ad3))).other W62 (Or.inl (Nat.ne_of_lt lt_o_ad3))).ext E67).other W72 (Or.inl (Nat.ne_of_lt lt_o_ad67))).other W78 (Or.inl (Nat.ne_of_lt lt_o_ad67))).other W84 (Or.inl (Nat.ne_of_lt lt_o_ad67))).ext Em).keep K89 nin0).other W377 (Or.inl (Nat.ne_of_lt lt_o_ad89_0))).other W381 (Or.inl (Nat.ne_of_lt lt_o_am))).other W390 (Or.inl (Nat.ne_of_lt lt_o_ad89_0))).other W394 (Or.inl (Nat.ne_of_lt lt_o_am)))
          have F437 := (((((((((((((((E_o.ext E3).wr W17).wr W32).wr W47).wr W62).ext E67).wr W72).wr W78).wr W84).ext Em).keep K89).wr W377).wr W381).wr W390).wr W394)
          refine OwnW.putF (a0 := a0) (pc' := 254) d2_251 (host := "") (Or.inl (hw _ (List.mem_of_getElem? (i := 27) rfl))) Via.refl F436 F437 (Or.inr ⟨(hw _ (List.mem_of_getElem? (i := 28) rfl)), rfl, rfl⟩) (hw _ (List.mem_of_getElem? (i := 7) rfl)) (ty := (.array .int)) (by decide) rfl rfl g_o rfl ?_
          intro h435 W435
          have sz438 : n0 ≤ h435.size := (by rw [W435.size]; exact sz396)
          have F439 := F436.same W435
          refine OwnW.aloadN (pc' := 255) d2_254 rfl (rfl) rfl ?_
          refine OwnW.aloadN (pc' := 256) d2_255 rfl (rfl) rfl ?_
          have F441 := ((((((((((((((((F_shares.ext E3).other W17 (Or.inl (Nat.ne_of_lt lt_o_ad3))).other W32 (Or.inl (Nat.ne_of_lt lt_o_ad3))).other W47 (Or.inl (Nat.ne_of_lt lt_o_ad3))).other W62 (Or.inl (Nat.ne_of_lt lt_o_ad3))).ext E67).other W72 (Or.inl (Nat.ne_of_lt lt_o_ad67))).other W78 (Or.inl (Nat.ne_of_lt lt_o_ad67))).other W84 (Or.inl (Nat.ne_of_lt lt_o_ad67))).ext Em).keep K89 nin0).other W377 (Or.inl (Nat.ne_of_lt lt_o_ad89_0))).other W381 (Or.inl (Nat.ne_of_lt lt_o_am))).other W390 (Or.inl (Nat.ne_of_lt lt_o_ad89_0))).other W394 (Or.inl (Nat.ne_of_lt lt_o_am))).other W435 (Or.inr (slot_ne (a0 := a0) (C := "com/example/sieve_for_links/sieveforlinks/VirtualLinks") (Or.inr (hw _ (List.mem_of_getElem? (i := 30) rfl))) (Or.inr (hw _ (List.mem_of_getElem? (i := 28) rfl))) (by decide) (t := (.array .double)) (t' := (.array .int)) (by decide) (by decide))))
          have F442 := (F437.wr W435)
          refine OwnW.putF (a0 := a0) (pc' := 259) d2_256 (host := "") (Or.inl (hw _ (List.mem_of_getElem? (i := 29) rfl))) Via.refl F441 F442 (Or.inr ⟨(hw _ (List.mem_of_getElem? (i := 30) rfl)), rfl, rfl⟩) (hw _ (List.mem_of_getElem? (i := 7) rfl)) (ty := (.array .double)) (by decide) rfl rfl g_o rfl ?_
          intro h440 W440
          have sz443 : n0 ≤ h440.size := (by rw [W440.size]; exact sz438)
          have F444 := F441.same W440
          refine OwnW.aloadN (pc' := 260) d2_259 rfl (rfl) rfl ?_
          refine OwnW.aload (pc' := 262) d2_260 rfl (rfl) rfl ?_
          have F446 := (((((((((((((((((F_members.ext E3).other W17 (Or.inl (Nat.ne_of_lt lt_o_ad3))).other W32 (Or.inl (Nat.ne_of_lt lt_o_ad3))).other W47 (Or.inl (Nat.ne_of_lt lt_o_ad3))).other W62 (Or.inl (Nat.ne_of_lt lt_o_ad3))).ext E67).other W72 (Or.inl (Nat.ne_of_lt lt_o_ad67))).other W78 (Or.inl (Nat.ne_of_lt lt_o_ad67))).other W84 (Or.inl (Nat.ne_of_lt lt_o_ad67))).ext Em).keep K89 nin0).other W377 (Or.inl (Nat.ne_of_lt lt_o_ad89_0))).other W381 (Or.inl (Nat.ne_of_lt lt_o_am))).other W390 (Or.inl (Nat.ne_of_lt lt_o_ad89_0))).other W394 (Or.inl (Nat.ne_of_lt lt_o_am))).other W435 (Or.inr (slot_ne (a0 := a0) (C := "com/example/sieve_for_links/sieveforlinks/VirtualLinks") (Or.inr (hw _ (List.mem_of_getElem? (i := 32) rfl))) (Or.inr (hw _ (List.mem_of_getElem? (i := 28) rfl))) (by decide) (t := (.array .int)) (t' := (.array .int)) (by decide) (by decide)))).other W440 (Or.inr (slot_ne (a0 := a0) (C := "com/example/sieve_for_links/sieveforlinks/VirtualLinks") (Or.inr (hw _ (List.mem_of_getElem? (i := 32) rfl))) (Or.inr (hw _ (List.mem_of_getElem? (i := 30) rfl))) (by decide) (t := (.array .int)) (t' := (.array .double)) (by decide) (by decide))))
          have F447 := (F442.wr W440)
          refine OwnW.putF (a0 := a0) (pc' := 265) d2_262 (host := "") (Or.inl (hw _ (List.mem_of_getElem? (i := 31) rfl))) Via.refl F446 F447 (Or.inr ⟨(hw _ (List.mem_of_getElem? (i := 32) rfl)), rfl, rfl⟩) (hw _ (List.mem_of_getElem? (i := 7) rfl)) (ty := (.array .int)) (by decide) rfl rfl g_o rfl ?_
          intro h445 W445
          have sz448 : n0 ≤ h445.size := (by rw [W445.size]; exact sz443)
          have F449 := F446.same W445
          refine OwnW.aloadN (pc' := 266) d2_265 rfl (rfl) rfl ?_
          refine OwnW.aload (pc' := 268) d2_266 rfl (rfl) rfl ?_
          have F451 := ((((((((((((((((((F_memberStarts.ext E3).other W17 (Or.inl (Nat.ne_of_lt lt_o_ad3))).other W32 (Or.inl (Nat.ne_of_lt lt_o_ad3))).other W47 (Or.inl (Nat.ne_of_lt lt_o_ad3))).other W62 (Or.inl (Nat.ne_of_lt lt_o_ad3))).ext E67).other W72 (Or.inl (Nat.ne_of_lt lt_o_ad67))).other W78 (Or.inl (Nat.ne_of_lt lt_o_ad67))).other W84 (Or.inl (Nat.ne_of_lt lt_o_ad67))).ext Em).keep K89 nin0).other W377 (Or.inl (Nat.ne_of_lt lt_o_ad89_0))).other W381 (Or.inl (Nat.ne_of_lt lt_o_am))).other W390 (Or.inl (Nat.ne_of_lt lt_o_ad89_0))).other W394 (Or.inl (Nat.ne_of_lt lt_o_am))).other W435 (Or.inr (slot_ne (a0 := a0) (C := "com/example/sieve_for_links/sieveforlinks/VirtualLinks") (Or.inr (hw _ (List.mem_of_getElem? (i := 34) rfl))) (Or.inr (hw _ (List.mem_of_getElem? (i := 28) rfl))) (by decide) (t := (.array .int)) (t' := (.array .int)) (by decide) (by decide)))).other W440 (Or.inr (slot_ne (a0 := a0) (C := "com/example/sieve_for_links/sieveforlinks/VirtualLinks") (Or.inr (hw _ (List.mem_of_getElem? (i := 34) rfl))) (Or.inr (hw _ (List.mem_of_getElem? (i := 30) rfl))) (by decide) (t := (.array .int)) (t' := (.array .double)) (by decide) (by decide)))).other W445 (Or.inr (slot_ne (a0 := a0) (C := "com/example/sieve_for_links/sieveforlinks/VirtualLinks") (Or.inr (hw _ (List.mem_of_getElem? (i := 34) rfl))) (Or.inr (hw _ (List.mem_of_getElem? (i := 32) rfl))) (by decide) (t := (.array .int)) (t' := (.array .int)) (by decide) (by decide))))
          have F452 := (F447.wr W445)
          refine OwnW.putF (a0 := a0) (pc' := 271) d2_268 (host := "") (Or.inl (hw _ (List.mem_of_getElem? (i := 33) rfl))) Via.refl F451 F452 (Or.inr ⟨(hw _ (List.mem_of_getElem? (i := 34) rfl)), rfl, rfl⟩) (hw _ (List.mem_of_getElem? (i := 7) rfl)) (ty := (.array .int)) (by decide) rfl rfl g_o rfl ?_
          intro h450 W450
          have sz453 : n0 ≤ h450.size := (by rw [W450.size]; exact sz448)
          have F454 := F451.same W450
          exact OwnW.ret0 d2_271 rfl (by decide) (by decide) (⟨ad67, am, kc67, km, rfl, ((((((((((((((((((((Keep.refl h0 [o]).ext E3).wr W17 (Or.inr (Nat.le_trans (Nat.le_refl _) (Nat.le_of_eq gq3.symm)))).wr W32 (Or.inr (Nat.le_trans (Nat.le_refl _) (Nat.le_of_eq gq3.symm)))).wr W47 (Or.inr (Nat.le_trans (Nat.le_refl _) (Nat.le_of_eq gq3.symm)))).wr W62 (Or.inr (Nat.le_trans (Nat.le_refl _) (Nat.le_of_eq gq3.symm)))).ext E67).wr W72 (Or.inr (Nat.le_trans (Nat.le_trans (Nat.le_trans (Nat.le_trans (Nat.le_trans (Nat.le_trans (Nat.le_refl _) E3.1) (Nat.le_of_eq W17.size.symm)) (Nat.le_of_eq W32.size.symm)) (Nat.le_of_eq W47.size.symm)) (Nat.le_of_eq W62.size.symm)) (Nat.le_of_eq gq67.symm)))).wr W78 (Or.inr (Nat.le_trans (Nat.le_trans (Nat.le_trans (Nat.le_trans (Nat.le_trans (Nat.le_trans (Nat.le_refl _) E3.1) (Nat.le_of_eq W17.size.symm)) (Nat.le_of_eq W32.size.symm)) (Nat.le_of_eq W47.size.symm)) (Nat.le_of_eq W62.size.symm)) (Nat.le_of_eq gq67.symm)))).wr W84 (Or.inr (Nat.le_trans (Nat.le_trans (Nat.le_trans (Nat.le_trans (Nat.le_trans (Nat.le_trans (Nat.le_refl _) E3.1) (Nat.le_of_eq W17.size.symm)) (Nat.le_of_eq W32.size.symm)) (Nat.le_of_eq W47.size.symm)) (Nat.le_of_eq W62.size.symm)) (Nat.le_of_eq gq67.symm)))).ext Em).trans K89 all0).wr W377 (Or.inr (Nat.le_trans (Nat.le_trans (Nat.le_trans (Nat.le_trans (Nat.le_trans (Nat.le_trans (Nat.le_trans (Nat.le_trans (Nat.le_trans (Nat.le_trans (Nat.le_trans (Nat.le_refl _) E3.1) (Nat.le_of_eq W17.size.symm)) (Nat.le_of_eq W32.size.symm)) (Nat.le_of_eq W47.size.symm)) (Nat.le_of_eq W62.size.symm)) E67.1) (Nat.le_of_eq W72.size.symm)) (Nat.le_of_eq W78.size.symm)) (Nat.le_of_eq W84.size.symm)) Em.1) gl89_0))).wr W381 (Or.inr (Nat.le_trans (Nat.le_trans (Nat.le_trans (Nat.le_trans (Nat.le_trans (Nat.le_trans (Nat.le_trans (Nat.le_trans (Nat.le_trans (Nat.le_trans (Nat.le_refl _) E3.1) (Nat.le_of_eq W17.size.symm)) (Nat.le_of_eq W32.size.symm)) (Nat.le_of_eq W47.size.symm)) (Nat.le_of_eq W62.size.symm)) E67.1) (Nat.le_of_eq W72.size.symm)) (Nat.le_of_eq W78.size.symm)) (Nat.le_of_eq W84.size.symm)) (Nat.le_of_eq gm.symm)))).wr W390 (Or.inr (Nat.le_trans (Nat.le_trans (Nat.le_trans (Nat.le_trans (Nat.le_trans (Nat.le_trans (Nat.le_trans (Nat.le_trans (Nat.le_trans (Nat.le_trans (Nat.le_trans (Nat.le_refl _) E3.1) (Nat.le_of_eq W17.size.symm)) (Nat.le_of_eq W32.size.symm)) (Nat.le_of_eq W47.size.symm)) (Nat.le_of_eq W62.size.symm)) E67.1) (Nat.le_of_eq W72.size.symm)) (Nat.le_of_eq W78.size.symm)) (Nat.le_of_eq W84.size.symm)) Em.1) gl89_0))).wr W394 (Or.inr (Nat.le_trans (Nat.le_trans (Nat.le_trans (Nat.le_trans (Nat.le_trans (Nat.le_trans (Nat.le_trans (Nat.le_trans (Nat.le_trans (Nat.le_trans (Nat.le_refl _) E3.1) (Nat.le_of_eq W17.size.symm)) (Nat.le_of_eq W32.size.symm)) (Nat.le_of_eq W47.size.symm)) (Nat.le_of_eq W62.size.symm)) E67.1) (Nat.le_of_eq W72.size.symm)) (Nat.le_of_eq W78.size.symm)) (Nat.le_of_eq W84.size.symm)) (Nat.le_of_eq gm.symm)))).wr W435 (Or.inl (List.mem_of_getElem? (i := 0) rfl))).wr W440 (Or.inl (List.mem_of_getElem? (i := 0) rfl))).wr W445 (Or.inl (List.mem_of_getElem? (i := 0) rfl))).wr W450 (Or.inl (List.mem_of_getElem? (i := 0) rfl))), (Nat.le_trans (Nat.le_trans (Nat.le_trans (Nat.le_trans (Nat.le_trans (Nat.le_trans (Nat.le_refl _) E3.1) (Nat.le_of_eq W17.size.symm)) (Nat.le_of_eq W32.size.symm)) (Nat.le_of_eq W47.size.symm)) (Nat.le_of_eq W62.size.symm)) (Nat.le_of_eq gq67.symm)), (Nat.le_trans (Nat.le_trans (Nat.le_trans (Nat.le_trans (Nat.le_trans (Nat.le_trans (Nat.le_trans (Nat.le_trans (Nat.le_trans (Nat.le_trans (Nat.le_refl _) E3.1) (Nat.le_of_eq W17.size.symm)) (Nat.le_of_eq W32.size.symm)) (Nat.le_of_eq W47.size.symm)) (Nat.le_of_eq W62.size.symm)) E67.1) (Nat.le_of_eq W72.size.symm)) (Nat.le_of_eq W78.size.symm)) (Nat.le_of_eq W84.size.symm)) (Nat.le_of_eq gm.symm)), (Nat.ne_of_lt lt_ad67_am), (F452.wr W450), ((F444.other W445 (Or.inr (slot_ne (a0 := a0) (C := "com/example/sieve_for_links/sieveforlinks/VirtualLinks") (Or.inr (hw _ (List.mem_of_getElem? (i := 30) rfl))) (Or.inr (hw _ (List.mem_of_getElem? (i := 32) rfl))) (by decide) (t := (.array .double)) (t' := (.array .int)) (by decide) (by decide)))).other W450 (Or.inr (slot_ne (a0 := a0) (C := "com/example/sieve_for_links/sieveforlinks/VirtualLinks") (Or.inr (hw _ (List.mem_of_getElem? (i := 30) rfl))) (Or.inr (hw _ (List.mem_of_getElem? (i := 34) rfl))) (by decide) (t := (.array .double)) (t' := (.array .int)) (by decide) (by decide)))), (F449.other W450 (Or.inr (slot_ne (a0 := a0) (C := "com/example/sieve_for_links/sieveforlinks/VirtualLinks") (Or.inr (hw _ (List.mem_of_getElem? (i := 32) rfl))) (Or.inr (hw _ (List.mem_of_getElem? (i := 34) rfl))) (by decide) (t := (.array .int)) (t' := (.array .int)) (by decide) (by decide)))), F454, ((((VE1.other W435 (Ne.symm (Nat.ne_of_lt lt_o_ad67))).other W440 (Ne.symm (Nat.ne_of_lt lt_o_ad67))).other W445 (Ne.symm (Nat.ne_of_lt lt_o_ad67))).other W450 (Ne.symm (Nat.ne_of_lt lt_o_ad67))), ((((VE2.other W435 (Ne.symm (Nat.ne_of_lt lt_o_am))).other W440 (Ne.symm (Nat.ne_of_lt lt_o_am))).other W445 (Ne.symm (Nat.ne_of_lt lt_o_am))).other W450 (Ne.symm (Nat.ne_of_lt lt_o_am)))⟩)
      ·
        refine OwnW.ifcY (pc' := 243) d2_223 ((if0 _ _).trans (flt hc223_2).2.2.2) (by decide) (by decide) ?_
        refine OwnW.iinc (pc' := 246) (L' := #[.val (.ref o), .val (.ref q0), .val (.ref q1), .val (.int (3 : Int32)), .val (.ref ad3), .val (.ref ad67), .val (.ref am), .val (.ref ad89_0), .val (.int (3 : Int32))]) (d := (1 : Int32)) d2_243 rfl rfl rfl rfl ?_
        refine OwnW.goto (pc' := 212) d2_246 (by decide) (by decide) ?_
        refine OwnW.iload (pc' := 214) d2_212 rfl rfl ?_
        refine OwnW.aloadN (pc' := 215) d2_214 rfl (rfl) rfl ?_
        obtain ⟨cl455, Ar455, qk455, Sz455, Mn455, Hv455, Gf455⟩ := id F384
        refine OwnW.alen (pc' := 216) (x := (4 : Int32)) d2_215 Ar455 (len_of Sz455 Mn455) rfl ?_
        refine OwnW.icmpN (pc' := 219) d2_216 (tlt (by decide)).2.1 rfl ?_
        refine OwnW.aloadN (pc' := 220) d2_219 rfl (rfl) rfl ?_
        refine OwnW.iload (pc' := 222) d2_220 rfl rfl ?_
        obtain ⟨cl456, Ar456, qk456, Sz456, Mn456, Hv456, Gf456⟩ := id F384
        refine OwnW.iaload (pc' := 223) (v := (.int g3)) d2_222 Ar456 (inb_of Sz456 ⟨by decide, by decide⟩) (Hv456.at (inb_of Sz456 ⟨by decide, by decide⟩) rfl) rfl ?_
        by_cases hc223_3 : (0 : Int32) < g3
        ·
          refine OwnW.ifcN (pc' := 226) d2_223 ((if0 _ _).trans (tlt hc223_3).2.2.2) rfl ?_
          refine OwnW.aload (pc' := 228) d2_226 rfl (rfl) rfl ?_
          refine OwnW.aload (pc' := 230) d2_228 rfl (rfl) rfl ?_
          refine OwnW.aloadN (pc' := 231) d2_230 rfl (rfl) rfl ?_
          refine OwnW.iload (pc' := 233) d2_231 rfl rfl ?_
          obtain ⟨cl457, Ar457, qk457, Sz457, Mn457, Hv457, Gf457⟩ := id F384
          refine OwnW.iaload (pc' := 234) (v := (.int g3)) d2_233 Ar457 (inb_of Sz457 ⟨by decide, by decide⟩) (Hv457.at (inb_of Sz457 ⟨by decide, by decide⟩) rfl) rfl ?_
          refine OwnW.dup2 (pc' := 235) d2_234 rfl rfl rfl ?_
          have F458 := (VC378.other W381 (Ne.symm (Nat.ne_of_lt lt_am_ad89_0)))
          obtain ⟨cl459, Ar459, qk459, Sz459, Mn459, Hv459, Gf459⟩ := id F458
          refine OwnW.iaload (pc' := 236) (v := .int (C378.getD g3.toNatClampNeg 0)) d2_235 Ar459 (inb_of Sz459 (own_bd hg3)) (Hv459.at (inb_of Sz459 (own_bd hg3)) (own_gd C378 g3.toNatClampNeg)) rfl ?_
          show GoB2 l Z n0 (Q2 Z o q0 q1 kg ks g0 g1 g2 g3 s0 s1 s2 s3 h0) h381 4 17 236 #[.val (.ref o), .val (.ref q0), .val (.ref q1), .val (.int (3 : Int32)), .val (.ref ad3), .val (.ref ad67), .val (.ref am), .val (.ref ad89_0), .val (.int (3 : Int32))] [(.int (C378.getD g3.toNatClampNeg 0)), (.int g3), (.ref ad89_0), (.ref am)]
          refine OwnW.dupX2 (pc' := 237) d2_236 rfl ?_
          refine OwnW.iconst (pc' := 238) (v := (1 : Int32)) d2_237 rfl rfl ?_
          refine OwnW.iadd (pc' := 239) d2_238 rfl ?_
          obtain ⟨cl460, Ar460, qk460, Sz460, Mn460, Hv460, Gf460⟩ := id F458
          have bb460 := (own_bd hg3)
          refine OwnW.stI (pc' := 240) d2_239 Ar460 (inb_of Sz460 bb460) ge_ad89_0 rfl ?_
          intro h460 W460
          have sz462 : n0 ≤ h460.size := (by rw [W460.size]; exact sz383)
          obtain ⟨C461, hC461⟩ : ∃ z : List Int32, z = (C378.set g3.toNatClampNeg ((C378.getD g3.toNatClampNeg 0) + (1 : Int32))) := ⟨_, rfl⟩
          have VC461 : Arv Z h460 ad89_0 kc89_0 .int (4 : Int32) (C461.map Value.int) (.int (0 : Int32)) := by rw [hC461, List.map_set]; exact Arv.set Ar460 qk460 Sz460 Mn460 Hv460 Gf460 rfl W460 g3.toNatClampNeg rfl (own_ln (z := (4 : Int32)) lC378 bb460 (by decide))
          have lC461 : C461.length = 4 := by rw [hC461, List.length_set]; exact lC378
          show GoB2 l Z n0 (Q2 Z o q0 q1 kg ks g0 g1 g2 g3 s0 s1 s2 s3 h0) h460 4 17 240 #[.val (.ref o), .val (.ref q0), .val (.ref q1), .val (.int (3 : Int32)), .val (.ref ad3), .val (.ref ad67), .val (.ref am), .val (.ref ad89_0), .val (.int (3 : Int32))] [(.int (C378.getD g3.toNatClampNeg 0)), (.ref am)]
          refine OwnW.iload (pc' := 242) d2_240 rfl rfl ?_
          have F463 := (VC382.other W460 (Nat.ne_of_lt lt_am_ad89_0))
          obtain ⟨cl464, Ar464, qk464, Sz464, Mn464, Hv464, Gf464⟩ := id F463
          have bb464 := (own_mb11 hg0 hg1 hg2 hg3 hC15 hC18 hC33 hC48 hC63 hC68 hC73 hC79 hC85 hC0 hC375 hC378 hC382 hC461 htt hc223 hc223_1 hc223_2 hc223_3)
          refine OwnW.stI (pc' := 243) d2_242 Ar464 (inb_of Sz464 bb464) ge_am rfl ?_
          intro h464 W464
          have sz466 : n0 ≤ h464.size := (by rw [W464.size]; exact sz462)
          obtain ⟨C465, hC465⟩ : ∃ z : List Int32, z = (C382.set (C378.getD g3.toNatClampNeg 0).toNatClampNeg (3 : Int32)) := ⟨_, rfl⟩
          have VC465 : Arv Z h464 am km .int tt (C465.map Value.int) (.int (0 : Int32)) := by rw [hC465, List.map_set]; exact Arv.set Ar464 qk464 Sz464 Mn464 Hv464 Gf464 rfl W464 (C378.getD g3.toNatClampNeg 0).toNatClampNeg rfl (own_ln (z := tt) lC382 bb464 rfl)
          have lC465 : C465.length = tt.toNatClampNeg := by rw [hC465, List.length_set]; exact lC382
          show GoB2 l Z n0 (Q2 Z o q0 q1 kg ks g0 g1 g2 g3 s0 s1 s2 s3 h0) h464 4 17 243 #[.val (.ref o), .val (.ref q0), .val (.ref q1), .val (.int (3 : Int32)), .val (.ref ad3), .val (.ref ad67), .val (.ref am), .val (.ref ad89_0), .val (.int (3 : Int32))] []
          refine OwnW.iinc (pc' := 246) (L' := #[.val (.ref o), .val (.ref q0), .val (.ref q1), .val (.int (3 : Int32)), .val (.ref ad3), .val (.ref ad67), .val (.ref am), .val (.ref ad89_0), .val (.int (4 : Int32))]) (d := (1 : Int32)) d2_243 rfl rfl rfl rfl ?_
          refine OwnW.goto (pc' := 212) d2_246 (by decide) (by decide) ?_
          refine OwnW.iload (pc' := 214) d2_212 rfl rfl ?_
          refine OwnW.aloadN (pc' := 215) d2_214 rfl (rfl) rfl ?_
          have F467 := ((F384.other W460 (Nat.ne_of_lt lt_q0_ad89_0)).other W464 (Nat.ne_of_lt lt_q0_am))
          obtain ⟨cl468, Ar468, qk468, Sz468, Mn468, Hv468, Gf468⟩ := id F467
          refine OwnW.alen (pc' := 216) (x := (4 : Int32)) d2_215 Ar468 (len_of Sz468 Mn468) rfl ?_
          refine OwnW.icmpY (pc' := 249) d2_216 (flt (by decide)).2.1 (by decide) (by decide) ?_
          have he := own_end10 hg0 hg1 hg2 hg3 hC15 hC18 hC33 hC48 hC63 hC68 hC73 hC79 hC85 hC0 hC375 hC378 hC382 hC461 hC465 htt hc223 hc223_1 hc223_2 hc223_3
          have F469 := (((((F88.keep K89 nin0).other W377 (Nat.ne_of_lt lt_ad67_ad89_0)).other W381 (Nat.ne_of_lt lt_ad67_am)).other W460 (Nat.ne_of_lt lt_ad67_ad89_0)).other W464 (Nat.ne_of_lt lt_ad67_am))
          have VE1 : Arv Z h464 ad67 kc67 .int (5 : Int32) ((own_SL g0 g1 g2 g3).map Value.int) (.int (0 : Int32)) := by rw [← he.1]; exact F469
          have VE2 : Arv Z h464 am km .int (own_T g0 g1 g2 g3) ((own_ML g0 g1 g2 g3).map Value.int) (.int (0 : Int32)) := by rw [← he.2.1, ← ht2.2.2]; exact VC465
          refine OwnW.aloadN (pc' := 250) d2_249 rfl (rfl) rfl ?_
          refine OwnW.aloadN (pc' := 251) d2_250 rfl (rfl) rfl ?_
          have F471 := (((((((((((((((F_groups.ext E3).other W17 (Or.inl (Nat.ne_of_lt lt_o_ad3))).other W32 (Or.inl (Nat.ne_of_lt lt_o_ad3))).other W47 (Or.inl (Nat.ne_of_lt lt_o_ad3))).other W62 (Or.inl (Nat.ne_of_lt lt_o_ad3))).ext E67).other W72 (Or.inl (Nat.ne_of_lt lt_o_ad67))).other W78 (Or.inl (Nat.ne_of_lt lt_o_ad67))).other W84 (Or.inl (Nat.ne_of_lt lt_o_ad67))).ext Em).keep K89 nin0).other W377 (Or.inl (Nat.ne_of_lt lt_o_ad89_0))).other W381 (Or.inl (Nat.ne_of_lt lt_o_am))).other W460 (Or.inl (Nat.ne_of_lt lt_o_ad89_0))).other W464 (Or.inl (Nat.ne_of_lt lt_o_am)))
          have F472 := (((((((((((((((E_o.ext E3).wr W17).wr W32).wr W47).wr W62).ext E67).wr W72).wr W78).wr W84).ext Em).keep K89).wr W377).wr W381).wr W460).wr W464)
          refine OwnW.putF (a0 := a0) (pc' := 254) d2_251 (host := "") (Or.inl (hw _ (List.mem_of_getElem? (i := 27) rfl))) Via.refl F471 F472 (Or.inr ⟨(hw _ (List.mem_of_getElem? (i := 28) rfl)), rfl, rfl⟩) (hw _ (List.mem_of_getElem? (i := 7) rfl)) (ty := (.array .int)) (by decide) rfl rfl g_o rfl ?_
          intro h470 W470
          have sz473 : n0 ≤ h470.size := (by rw [W470.size]; exact sz466)
          have F474 := F471.same W470
          refine OwnW.aloadN (pc' := 255) d2_254 rfl (rfl) rfl ?_
          refine OwnW.aloadN (pc' := 256) d2_255 rfl (rfl) rfl ?_
          have F476 := ((((((((((((((((F_shares.ext E3).other W17 (Or.inl (Nat.ne_of_lt lt_o_ad3))).other W32 (Or.inl (Nat.ne_of_lt lt_o_ad3))).other W47 (Or.inl (Nat.ne_of_lt lt_o_ad3))).other W62 (Or.inl (Nat.ne_of_lt lt_o_ad3))).ext E67).other W72 (Or.inl (Nat.ne_of_lt lt_o_ad67))).other W78 (Or.inl (Nat.ne_of_lt lt_o_ad67))).other W84 (Or.inl (Nat.ne_of_lt lt_o_ad67))).ext Em).keep K89 nin0).other W377 (Or.inl (Nat.ne_of_lt lt_o_ad89_0))).other W381 (Or.inl (Nat.ne_of_lt lt_o_am))).other W460 (Or.inl (Nat.ne_of_lt lt_o_ad89_0))).other W464 (Or.inl (Nat.ne_of_lt lt_o_am))).other W470 (Or.inr (slot_ne (a0 := a0) (C := "com/example/sieve_for_links/sieveforlinks/VirtualLinks") (Or.inr (hw _ (List.mem_of_getElem? (i := 30) rfl))) (Or.inr (hw _ (List.mem_of_getElem? (i := 28) rfl))) (by decide) (t := (.array .double)) (t' := (.array .int)) (by decide) (by decide))))
          have F477 := (F472.wr W470)
          refine OwnW.putF (a0 := a0) (pc' := 259) d2_256 (host := "") (Or.inl (hw _ (List.mem_of_getElem? (i := 29) rfl))) Via.refl F476 F477 (Or.inr ⟨(hw _ (List.mem_of_getElem? (i := 30) rfl)), rfl, rfl⟩) (hw _ (List.mem_of_getElem? (i := 7) rfl)) (ty := (.array .double)) (by decide) rfl rfl g_o rfl ?_
          intro h475 W475
          have sz478 : n0 ≤ h475.size := (by rw [W475.size]; exact sz473)
          have F479 := F476.same W475
          refine OwnW.aloadN (pc' := 260) d2_259 rfl (rfl) rfl ?_
          refine OwnW.aload (pc' := 262) d2_260 rfl (rfl) rfl ?_
          have F481 := (((((((((((((((((F_members.ext E3).other W17 (Or.inl (Nat.ne_of_lt lt_o_ad3))).other W32 (Or.inl (Nat.ne_of_lt lt_o_ad3))).other W47 (Or.inl (Nat.ne_of_lt lt_o_ad3))).other W62 (Or.inl (Nat.ne_of_lt lt_o_ad3))).ext E67).other W72 (Or.inl (Nat.ne_of_lt lt_o_ad67))).other W78 (Or.inl (Nat.ne_of_lt lt_o_ad67))).other W84 (Or.inl (Nat.ne_of_lt lt_o_ad67))).ext Em).keep K89 nin0).other W377 (Or.inl (Nat.ne_of_lt lt_o_ad89_0))).other W381 (Or.inl (Nat.ne_of_lt lt_o_am))).other W460 (Or.inl (Nat.ne_of_lt lt_o_ad89_0))).other W464 (Or.inl (Nat.ne_of_lt lt_o_am))).other W470 (Or.inr (slot_ne (a0 := a0) (C := "com/example/sieve_for_links/sieveforlinks/VirtualLinks") (Or.inr (hw _ (List.mem_of_getElem? (i := 32) rfl))) (Or.inr (hw _ (List.mem_of_getElem? (i := 28) rfl))) (by decide) (t := (.array .int)) (t' := (.array .int)) (by decide) (by decide)))).other W475 (Or.inr (slot_ne (a0 := a0) (C := "com/example/sieve_for_links/sieveforlinks/VirtualLinks") (Or.inr (hw _ (List.mem_of_getElem? (i := 32) rfl))) (Or.inr (hw _ (List.mem_of_getElem? (i := 30) rfl))) (by decide) (t := (.array .int)) (t' := (.array .double)) (by decide) (by decide))))
          have F482 := (F477.wr W475)
          refine OwnW.putF (a0 := a0) (pc' := 265) d2_262 (host := "") (Or.inl (hw _ (List.mem_of_getElem? (i := 31) rfl))) Via.refl F481 F482 (Or.inr ⟨(hw _ (List.mem_of_getElem? (i := 32) rfl)), rfl, rfl⟩) (hw _ (List.mem_of_getElem? (i := 7) rfl)) (ty := (.array .int)) (by decide) rfl rfl g_o rfl ?_
          intro h480 W480
          have sz483 : n0 ≤ h480.size := (by rw [W480.size]; exact sz478)
          have F484 := F481.same W480
          refine OwnW.aloadN (pc' := 266) d2_265 rfl (rfl) rfl ?_
          refine OwnW.aload (pc' := 268) d2_266 rfl (rfl) rfl ?_
          have F486 := ((((((((((((((((((F_memberStarts.ext E3).other W17 (Or.inl (Nat.ne_of_lt lt_o_ad3))).other W32 (Or.inl (Nat.ne_of_lt lt_o_ad3))).other W47 (Or.inl (Nat.ne_of_lt lt_o_ad3))).other W62 (Or.inl (Nat.ne_of_lt lt_o_ad3))).ext E67).other W72 (Or.inl (Nat.ne_of_lt lt_o_ad67))).other W78 (Or.inl (Nat.ne_of_lt lt_o_ad67))).other W84 (Or.inl (Nat.ne_of_lt lt_o_ad67))).ext Em).keep K89 nin0).other W377 (Or.inl (Nat.ne_of_lt lt_o_ad89_0))).other W381 (Or.inl (Nat.ne_of_lt lt_o_am))).other W460 (Or.inl (Nat.ne_of_lt lt_o_ad89_0))).other W464 (Or.inl (Nat.ne_of_lt lt_o_am))).other W470 (Or.inr (slot_ne (a0 := a0) (C := "com/example/sieve_for_links/sieveforlinks/VirtualLinks") (Or.inr (hw _ (List.mem_of_getElem? (i := 34) rfl))) (Or.inr (hw _ (List.mem_of_getElem? (i := 28) rfl))) (by decide) (t := (.array .int)) (t' := (.array .int)) (by decide) (by decide)))).other W475 (Or.inr (slot_ne (a0 := a0) (C := "com/example/sieve_for_links/sieveforlinks/VirtualLinks") (Or.inr (hw _ (List.mem_of_getElem? (i := 34) rfl))) (Or.inr (hw _ (List.mem_of_getElem? (i := 30) rfl))) (by decide) (t := (.array .int)) (t' := (.array .double)) (by decide) (by decide)))).other W480 (Or.inr (slot_ne (a0 := a0) (C := "com/example/sieve_for_links/sieveforlinks/VirtualLinks") (Or.inr (hw _ (List.mem_of_getElem? (i := 34) rfl))) (Or.inr (hw _ (List.mem_of_getElem? (i := 32) rfl))) (by decide) (t := (.array .int)) (t' := (.array .int)) (by decide) (by decide))))
          have F487 := (F482.wr W480)
          refine OwnW.putF (a0 := a0) (pc' := 271) d2_268 (host := "") (Or.inl (hw _ (List.mem_of_getElem? (i := 33) rfl))) Via.refl F486 F487 (Or.inr ⟨(hw _ (List.mem_of_getElem? (i := 34) rfl)), rfl, rfl⟩) (hw _ (List.mem_of_getElem? (i := 7) rfl)) (ty := (.array .int)) (by decide) rfl rfl g_o rfl ?_
          intro h485 W485
          have sz488 : n0 ≤ h485.size := (by rw [W485.size]; exact sz483)
          have F489 := F486.same W485
          exact OwnW.ret0 d2_271 rfl (by decide) (by decide) (⟨ad67, am, kc67, km, rfl, ((((((((((((((((((((Keep.refl h0 [o]).ext E3).wr W17 (Or.inr (Nat.le_trans (Nat.le_refl _) (Nat.le_of_eq gq3.symm)))).wr W32 (Or.inr (Nat.le_trans (Nat.le_refl _) (Nat.le_of_eq gq3.symm)))).wr W47 (Or.inr (Nat.le_trans (Nat.le_refl _) (Nat.le_of_eq gq3.symm)))).wr W62 (Or.inr (Nat.le_trans (Nat.le_refl _) (Nat.le_of_eq gq3.symm)))).ext E67).wr W72 (Or.inr (Nat.le_trans (Nat.le_trans (Nat.le_trans (Nat.le_trans (Nat.le_trans (Nat.le_trans (Nat.le_refl _) E3.1) (Nat.le_of_eq W17.size.symm)) (Nat.le_of_eq W32.size.symm)) (Nat.le_of_eq W47.size.symm)) (Nat.le_of_eq W62.size.symm)) (Nat.le_of_eq gq67.symm)))).wr W78 (Or.inr (Nat.le_trans (Nat.le_trans (Nat.le_trans (Nat.le_trans (Nat.le_trans (Nat.le_trans (Nat.le_refl _) E3.1) (Nat.le_of_eq W17.size.symm)) (Nat.le_of_eq W32.size.symm)) (Nat.le_of_eq W47.size.symm)) (Nat.le_of_eq W62.size.symm)) (Nat.le_of_eq gq67.symm)))).wr W84 (Or.inr (Nat.le_trans (Nat.le_trans (Nat.le_trans (Nat.le_trans (Nat.le_trans (Nat.le_trans (Nat.le_refl _) E3.1) (Nat.le_of_eq W17.size.symm)) (Nat.le_of_eq W32.size.symm)) (Nat.le_of_eq W47.size.symm)) (Nat.le_of_eq W62.size.symm)) (Nat.le_of_eq gq67.symm)))).ext Em).trans K89 all0).wr W377 (Or.inr (Nat.le_trans (Nat.le_trans (Nat.le_trans (Nat.le_trans (Nat.le_trans (Nat.le_trans (Nat.le_trans (Nat.le_trans (Nat.le_trans (Nat.le_trans (Nat.le_trans (Nat.le_refl _) E3.1) (Nat.le_of_eq W17.size.symm)) (Nat.le_of_eq W32.size.symm)) (Nat.le_of_eq W47.size.symm)) (Nat.le_of_eq W62.size.symm)) E67.1) (Nat.le_of_eq W72.size.symm)) (Nat.le_of_eq W78.size.symm)) (Nat.le_of_eq W84.size.symm)) Em.1) gl89_0))).wr W381 (Or.inr (Nat.le_trans (Nat.le_trans (Nat.le_trans (Nat.le_trans (Nat.le_trans (Nat.le_trans (Nat.le_trans (Nat.le_trans (Nat.le_trans (Nat.le_trans (Nat.le_refl _) E3.1) (Nat.le_of_eq W17.size.symm)) (Nat.le_of_eq W32.size.symm)) (Nat.le_of_eq W47.size.symm)) (Nat.le_of_eq W62.size.symm)) E67.1) (Nat.le_of_eq W72.size.symm)) (Nat.le_of_eq W78.size.symm)) (Nat.le_of_eq W84.size.symm)) (Nat.le_of_eq gm.symm)))).wr W460 (Or.inr (Nat.le_trans (Nat.le_trans (Nat.le_trans (Nat.le_trans (Nat.le_trans (Nat.le_trans (Nat.le_trans (Nat.le_trans (Nat.le_trans (Nat.le_trans (Nat.le_trans (Nat.le_refl _) E3.1) (Nat.le_of_eq W17.size.symm)) (Nat.le_of_eq W32.size.symm)) (Nat.le_of_eq W47.size.symm)) (Nat.le_of_eq W62.size.symm)) E67.1) (Nat.le_of_eq W72.size.symm)) (Nat.le_of_eq W78.size.symm)) (Nat.le_of_eq W84.size.symm)) Em.1) gl89_0))).wr W464 (Or.inr (Nat.le_trans (Nat.le_trans (Nat.le_trans (Nat.le_trans (Nat.le_trans (Nat.le_trans (Nat.le_trans (Nat.le_trans (Nat.le_trans (Nat.le_trans (Nat.le_refl _) E3.1) (Nat.le_of_eq W17.size.symm)) (Nat.le_of_eq W32.size.symm)) (Nat.le_of_eq W47.size.symm)) (Nat.le_of_eq W62.size.symm)) E67.1) (Nat.le_of_eq W72.size.symm)) (Nat.le_of_eq W78.size.symm)) (Nat.le_of_eq W84.size.symm)) (Nat.le_of_eq gm.symm)))).wr W470 (Or.inl (List.mem_of_getElem? (i := 0) rfl))).wr W475 (Or.inl (List.mem_of_getElem? (i := 0) rfl))).wr W480 (Or.inl (List.mem_of_getElem? (i := 0) rfl))).wr W485 (Or.inl (List.mem_of_getElem? (i := 0) rfl))), (Nat.le_trans (Nat.le_trans (Nat.le_trans (Nat.le_trans (Nat.le_trans (Nat.le_trans (Nat.le_refl _) E3.1) (Nat.le_of_eq W17.size.symm)) (Nat.le_of_eq W32.size.symm)) (Nat.le_of_eq W47.size.symm)) (Nat.le_of_eq W62.size.symm)) (Nat.le_of_eq gq67.symm)), (Nat.le_trans (Nat.le_trans (Nat.le_trans (Nat.le_trans (Nat.le_trans (Nat.le_trans (Nat.le_trans (Nat.le_trans (Nat.le_trans (Nat.le_trans (Nat.le_refl _) E3.1) (Nat.le_of_eq W17.size.symm)) (Nat.le_of_eq W32.size.symm)) (Nat.le_of_eq W47.size.symm)) (Nat.le_of_eq W62.size.symm)) E67.1) (Nat.le_of_eq W72.size.symm)) (Nat.le_of_eq W78.size.symm)) (Nat.le_of_eq W84.size.symm)) (Nat.le_of_eq gm.symm)), (Nat.ne_of_lt lt_ad67_am), (F487.wr W485), ((F479.other W480 (Or.inr (slot_ne (a0 := a0) (C := "com/example/sieve_for_links/sieveforlinks/VirtualLinks") (Or.inr (hw _ (List.mem_of_getElem? (i := 30) rfl))) (Or.inr (hw _ (List.mem_of_getElem? (i := 32) rfl))) (by decide) (t := (.array .double)) (t' := (.array .int)) (by decide) (by decide)))).other W485 (Or.inr (slot_ne (a0 := a0) (C := "com/example/sieve_for_links/sieveforlinks/VirtualLinks") (Or.inr (hw _ (List.mem_of_getElem? (i := 30) rfl))) (Or.inr (hw _ (List.mem_of_getElem? (i := 34) rfl))) (by decide) (t := (.array .double)) (t' := (.array .int)) (by decide) (by decide)))), (F484.other W485 (Or.inr (slot_ne (a0 := a0) (C := "com/example/sieve_for_links/sieveforlinks/VirtualLinks") (Or.inr (hw _ (List.mem_of_getElem? (i := 32) rfl))) (Or.inr (hw _ (List.mem_of_getElem? (i := 34) rfl))) (by decide) (t := (.array .int)) (t' := (.array .int)) (by decide) (by decide)))), F489, ((((VE1.other W470 (Ne.symm (Nat.ne_of_lt lt_o_ad67))).other W475 (Ne.symm (Nat.ne_of_lt lt_o_ad67))).other W480 (Ne.symm (Nat.ne_of_lt lt_o_ad67))).other W485 (Ne.symm (Nat.ne_of_lt lt_o_ad67))), ((((VE2.other W470 (Ne.symm (Nat.ne_of_lt lt_o_am))).other W475 (Ne.symm (Nat.ne_of_lt lt_o_am))).other W480 (Ne.symm (Nat.ne_of_lt lt_o_am))).other W485 (Ne.symm (Nat.ne_of_lt lt_o_am)))⟩)
        ·
          refine OwnW.ifcY (pc' := 243) d2_223 ((if0 _ _).trans (flt hc223_3).2.2.2) (by decide) (by decide) ?_
          refine OwnW.iinc (pc' := 246) (L' := #[.val (.ref o), .val (.ref q0), .val (.ref q1), .val (.int (3 : Int32)), .val (.ref ad3), .val (.ref ad67), .val (.ref am), .val (.ref ad89_0), .val (.int (4 : Int32))]) (d := (1 : Int32)) d2_243 rfl rfl rfl rfl ?_
          refine OwnW.goto (pc' := 212) d2_246 (by decide) (by decide) ?_
          refine OwnW.iload (pc' := 214) d2_212 rfl rfl ?_
          refine OwnW.aloadN (pc' := 215) d2_214 rfl (rfl) rfl ?_
          obtain ⟨cl490, Ar490, qk490, Sz490, Mn490, Hv490, Gf490⟩ := id F384
          refine OwnW.alen (pc' := 216) (x := (4 : Int32)) d2_215 Ar490 (len_of Sz490 Mn490) rfl ?_
          refine OwnW.icmpY (pc' := 249) d2_216 (flt (by decide)).2.1 (by decide) (by decide) ?_
          have he := own_end11 hg0 hg1 hg2 hg3 hC15 hC18 hC33 hC48 hC63 hC68 hC73 hC79 hC85 hC0 hC375 hC378 hC382 htt hc223 hc223_1 hc223_2 hc223_3
          have F491 := (((F88.keep K89 nin0).other W377 (Nat.ne_of_lt lt_ad67_ad89_0)).other W381 (Nat.ne_of_lt lt_ad67_am))
          have VE1 : Arv Z h381 ad67 kc67 .int (5 : Int32) ((own_SL g0 g1 g2 g3).map Value.int) (.int (0 : Int32)) := by rw [← he.1]; exact F491
          have VE2 : Arv Z h381 am km .int (own_T g0 g1 g2 g3) ((own_ML g0 g1 g2 g3).map Value.int) (.int (0 : Int32)) := by rw [← he.2.1, ← ht2.2.2]; exact VC382
          refine OwnW.aloadN (pc' := 250) d2_249 rfl (rfl) rfl ?_
          refine OwnW.aloadN (pc' := 251) d2_250 rfl (rfl) rfl ?_
          have F493 := (((((((((((((F_groups.ext E3).other W17 (Or.inl (Nat.ne_of_lt lt_o_ad3))).other W32 (Or.inl (Nat.ne_of_lt lt_o_ad3))).other W47 (Or.inl (Nat.ne_of_lt lt_o_ad3))).other W62 (Or.inl (Nat.ne_of_lt lt_o_ad3))).ext E67).other W72 (Or.inl (Nat.ne_of_lt lt_o_ad67))).other W78 (Or.inl (Nat.ne_of_lt lt_o_ad67))).other W84 (Or.inl (Nat.ne_of_lt lt_o_ad67))).ext Em).keep K89 nin0).other W377 (Or.inl (Nat.ne_of_lt lt_o_ad89_0))).other W381 (Or.inl (Nat.ne_of_lt lt_o_am)))
          have F494 := (((((((((((((E_o.ext E3).wr W17).wr W32).wr W47).wr W62).ext E67).wr W72).wr W78).wr W84).ext Em).keep K89).wr W377).wr W381)
          refine OwnW.putF (a0 := a0) (pc' := 254) d2_251 (host := "") (Or.inl (hw _ (List.mem_of_getElem? (i := 27) rfl))) Via.refl F493 F494 (Or.inr ⟨(hw _ (List.mem_of_getElem? (i := 28) rfl)), rfl, rfl⟩) (hw _ (List.mem_of_getElem? (i := 7) rfl)) (ty := (.array .int)) (by decide) rfl rfl g_o rfl ?_
          intro h492 W492
          have sz495 : n0 ≤ h492.size := (by rw [W492.size]; exact sz383)
          have F496 := F493.same W492
          refine OwnW.aloadN (pc' := 255) d2_254 rfl (rfl) rfl ?_
          refine OwnW.aloadN (pc' := 256) d2_255 rfl (rfl) rfl ?_
          have F498 := ((((((((((((((F_shares.ext E3).other W17 (Or.inl (Nat.ne_of_lt lt_o_ad3))).other W32 (Or.inl (Nat.ne_of_lt lt_o_ad3))).other W47 (Or.inl (Nat.ne_of_lt lt_o_ad3))).other W62 (Or.inl (Nat.ne_of_lt lt_o_ad3))).ext E67).other W72 (Or.inl (Nat.ne_of_lt lt_o_ad67))).other W78 (Or.inl (Nat.ne_of_lt lt_o_ad67))).other W84 (Or.inl (Nat.ne_of_lt lt_o_ad67))).ext Em).keep K89 nin0).other W377 (Or.inl (Nat.ne_of_lt lt_o_ad89_0))).other W381 (Or.inl (Nat.ne_of_lt lt_o_am))).other W492 (Or.inr (slot_ne (a0 := a0) (C := "com/example/sieve_for_links/sieveforlinks/VirtualLinks") (Or.inr (hw _ (List.mem_of_getElem? (i := 30) rfl))) (Or.inr (hw _ (List.mem_of_getElem? (i := 28) rfl))) (by decide) (t := (.array .double)) (t' := (.array .int)) (by decide) (by decide))))
          have F499 := (F494.wr W492)
          refine OwnW.putF (a0 := a0) (pc' := 259) d2_256 (host := "") (Or.inl (hw _ (List.mem_of_getElem? (i := 29) rfl))) Via.refl F498 F499 (Or.inr ⟨(hw _ (List.mem_of_getElem? (i := 30) rfl)), rfl, rfl⟩) (hw _ (List.mem_of_getElem? (i := 7) rfl)) (ty := (.array .double)) (by decide) rfl rfl g_o rfl ?_
          intro h497 W497
          have sz500 : n0 ≤ h497.size := (by rw [W497.size]; exact sz495)
          have F501 := F498.same W497
          refine OwnW.aloadN (pc' := 260) d2_259 rfl (rfl) rfl ?_
          refine OwnW.aload (pc' := 262) d2_260 rfl (rfl) rfl ?_
          have F503 := (((((((((((((((F_members.ext E3).other W17 (Or.inl (Nat.ne_of_lt lt_o_ad3))).other W32 (Or.inl (Nat.ne_of_lt lt_o_ad3))).other W47 (Or.inl (Nat.ne_of_lt lt_o_ad3))).other W62 (Or.inl (Nat.ne_of_lt lt_o_ad3))).ext E67).other W72 (Or.inl (Nat.ne_of_lt lt_o_ad67))).other W78 (Or.inl (Nat.ne_of_lt lt_o_ad67))).other W84 (Or.inl (Nat.ne_of_lt lt_o_ad67))).ext Em).keep K89 nin0).other W377 (Or.inl (Nat.ne_of_lt lt_o_ad89_0))).other W381 (Or.inl (Nat.ne_of_lt lt_o_am))).other W492 (Or.inr (slot_ne (a0 := a0) (C := "com/example/sieve_for_links/sieveforlinks/VirtualLinks") (Or.inr (hw _ (List.mem_of_getElem? (i := 32) rfl))) (Or.inr (hw _ (List.mem_of_getElem? (i := 28) rfl))) (by decide) (t := (.array .int)) (t' := (.array .int)) (by decide) (by decide)))).other W497 (Or.inr (slot_ne (a0 := a0) (C := "com/example/sieve_for_links/sieveforlinks/VirtualLinks") (Or.inr (hw _ (List.mem_of_getElem? (i := 32) rfl))) (Or.inr (hw _ (List.mem_of_getElem? (i := 30) rfl))) (by decide) (t := (.array .int)) (t' := (.array .double)) (by decide) (by decide))))
          have F504 := (F499.wr W497)
          refine OwnW.putF (a0 := a0) (pc' := 265) d2_262 (host := "") (Or.inl (hw _ (List.mem_of_getElem? (i := 31) rfl))) Via.refl F503 F504 (Or.inr ⟨(hw _ (List.mem_of_getElem? (i := 32) rfl)), rfl, rfl⟩) (hw _ (List.mem_of_getElem? (i := 7) rfl)) (ty := (.array .int)) (by decide) rfl rfl g_o rfl ?_
          intro h502 W502
          have sz505 : n0 ≤ h502.size := (by rw [W502.size]; exact sz500)
          have F506 := F503.same W502
          refine OwnW.aloadN (pc' := 266) d2_265 rfl (rfl) rfl ?_
          refine OwnW.aload (pc' := 268) d2_266 rfl (rfl) rfl ?_
          have F508 := ((((((((((((((((F_memberStarts.ext E3).other W17 (Or.inl (Nat.ne_of_lt lt_o_ad3))).other W32 (Or.inl (Nat.ne_of_lt lt_o_ad3))).other W47 (Or.inl (Nat.ne_of_lt lt_o_ad3))).other W62 (Or.inl (Nat.ne_of_lt lt_o_ad3))).ext E67).other W72 (Or.inl (Nat.ne_of_lt lt_o_ad67))).other W78 (Or.inl (Nat.ne_of_lt lt_o_ad67))).other W84 (Or.inl (Nat.ne_of_lt lt_o_ad67))).ext Em).keep K89 nin0).other W377 (Or.inl (Nat.ne_of_lt lt_o_ad89_0))).other W381 (Or.inl (Nat.ne_of_lt lt_o_am))).other W492 (Or.inr (slot_ne (a0 := a0) (C := "com/example/sieve_for_links/sieveforlinks/VirtualLinks") (Or.inr (hw _ (List.mem_of_getElem? (i := 34) rfl))) (Or.inr (hw _ (List.mem_of_getElem? (i := 28) rfl))) (by decide) (t := (.array .int)) (t' := (.array .int)) (by decide) (by decide)))).other W497 (Or.inr (slot_ne (a0 := a0) (C := "com/example/sieve_for_links/sieveforlinks/VirtualLinks") (Or.inr (hw _ (List.mem_of_getElem? (i := 34) rfl))) (Or.inr (hw _ (List.mem_of_getElem? (i := 30) rfl))) (by decide) (t := (.array .int)) (t' := (.array .double)) (by decide) (by decide)))).other W502 (Or.inr (slot_ne (a0 := a0) (C := "com/example/sieve_for_links/sieveforlinks/VirtualLinks") (Or.inr (hw _ (List.mem_of_getElem? (i := 34) rfl))) (Or.inr (hw _ (List.mem_of_getElem? (i := 32) rfl))) (by decide) (t := (.array .int)) (t' := (.array .int)) (by decide) (by decide))))
          have F509 := (F504.wr W502)
          refine OwnW.putF (a0 := a0) (pc' := 271) d2_268 (host := "") (Or.inl (hw _ (List.mem_of_getElem? (i := 33) rfl))) Via.refl F508 F509 (Or.inr ⟨(hw _ (List.mem_of_getElem? (i := 34) rfl)), rfl, rfl⟩) (hw _ (List.mem_of_getElem? (i := 7) rfl)) (ty := (.array .int)) (by decide) rfl rfl g_o rfl ?_
          intro h507 W507
          have sz510 : n0 ≤ h507.size := (by rw [W507.size]; exact sz505)
          have F511 := F508.same W507
          exact OwnW.ret0 d2_271 rfl (by decide) (by decide) (⟨ad67, am, kc67, km, rfl, ((((((((((((((((((Keep.refl h0 [o]).ext E3).wr W17 (Or.inr (Nat.le_trans (Nat.le_refl _) (Nat.le_of_eq gq3.symm)))).wr W32 (Or.inr (Nat.le_trans (Nat.le_refl _) (Nat.le_of_eq gq3.symm)))).wr W47 (Or.inr (Nat.le_trans (Nat.le_refl _) (Nat.le_of_eq gq3.symm)))).wr W62 (Or.inr (Nat.le_trans (Nat.le_refl _) (Nat.le_of_eq gq3.symm)))).ext E67).wr W72 (Or.inr (Nat.le_trans (Nat.le_trans (Nat.le_trans (Nat.le_trans (Nat.le_trans (Nat.le_trans (Nat.le_refl _) E3.1) (Nat.le_of_eq W17.size.symm)) (Nat.le_of_eq W32.size.symm)) (Nat.le_of_eq W47.size.symm)) (Nat.le_of_eq W62.size.symm)) (Nat.le_of_eq gq67.symm)))).wr W78 (Or.inr (Nat.le_trans (Nat.le_trans (Nat.le_trans (Nat.le_trans (Nat.le_trans (Nat.le_trans (Nat.le_refl _) E3.1) (Nat.le_of_eq W17.size.symm)) (Nat.le_of_eq W32.size.symm)) (Nat.le_of_eq W47.size.symm)) (Nat.le_of_eq W62.size.symm)) (Nat.le_of_eq gq67.symm)))).wr W84 (Or.inr (Nat.le_trans (Nat.le_trans (Nat.le_trans (Nat.le_trans (Nat.le_trans (Nat.le_trans (Nat.le_refl _) E3.1) (Nat.le_of_eq W17.size.symm)) (Nat.le_of_eq W32.size.symm)) (Nat.le_of_eq W47.size.symm)) (Nat.le_of_eq W62.size.symm)) (Nat.le_of_eq gq67.symm)))).ext Em).trans K89 all0).wr W377 (Or.inr (Nat.le_trans (Nat.le_trans (Nat.le_trans (Nat.le_trans (Nat.le_trans (Nat.le_trans (Nat.le_trans (Nat.le_trans (Nat.le_trans (Nat.le_trans (Nat.le_trans (Nat.le_refl _) E3.1) (Nat.le_of_eq W17.size.symm)) (Nat.le_of_eq W32.size.symm)) (Nat.le_of_eq W47.size.symm)) (Nat.le_of_eq W62.size.symm)) E67.1) (Nat.le_of_eq W72.size.symm)) (Nat.le_of_eq W78.size.symm)) (Nat.le_of_eq W84.size.symm)) Em.1) gl89_0))).wr W381 (Or.inr (Nat.le_trans (Nat.le_trans (Nat.le_trans (Nat.le_trans (Nat.le_trans (Nat.le_trans (Nat.le_trans (Nat.le_trans (Nat.le_trans (Nat.le_trans (Nat.le_refl _) E3.1) (Nat.le_of_eq W17.size.symm)) (Nat.le_of_eq W32.size.symm)) (Nat.le_of_eq W47.size.symm)) (Nat.le_of_eq W62.size.symm)) E67.1) (Nat.le_of_eq W72.size.symm)) (Nat.le_of_eq W78.size.symm)) (Nat.le_of_eq W84.size.symm)) (Nat.le_of_eq gm.symm)))).wr W492 (Or.inl (List.mem_of_getElem? (i := 0) rfl))).wr W497 (Or.inl (List.mem_of_getElem? (i := 0) rfl))).wr W502 (Or.inl (List.mem_of_getElem? (i := 0) rfl))).wr W507 (Or.inl (List.mem_of_getElem? (i := 0) rfl))), (Nat.le_trans (Nat.le_trans (Nat.le_trans (Nat.le_trans (Nat.le_trans (Nat.le_trans (Nat.le_refl _) E3.1) (Nat.le_of_eq W17.size.symm)) (Nat.le_of_eq W32.size.symm)) (Nat.le_of_eq W47.size.symm)) (Nat.le_of_eq W62.size.symm)) (Nat.le_of_eq gq67.symm)), (Nat.le_trans (Nat.le_trans (Nat.le_trans (Nat.le_trans (Nat.le_trans (Nat.le_trans (Nat.le_trans (Nat.le_trans (Nat.le_trans (Nat.le_trans (Nat.le_refl _) E3.1) (Nat.le_of_eq W17.size.symm)) (Nat.le_of_eq W32.size.symm)) (Nat.le_of_eq W47.size.symm)) (Nat.le_of_eq W62.size.symm)) E67.1) (Nat.le_of_eq W72.size.symm)) (Nat.le_of_eq W78.size.symm)) (Nat.le_of_eq W84.size.symm)) (Nat.le_of_eq gm.symm)), (Nat.ne_of_lt lt_ad67_am), (F509.wr W507), ((F501.other W502 (Or.inr (slot_ne (a0 := a0) (C := "com/example/sieve_for_links/sieveforlinks/VirtualLinks") (Or.inr (hw _ (List.mem_of_getElem? (i := 30) rfl))) (Or.inr (hw _ (List.mem_of_getElem? (i := 32) rfl))) (by decide) (t := (.array .double)) (t' := (.array .int)) (by decide) (by decide)))).other W507 (Or.inr (slot_ne (a0 := a0) (C := "com/example/sieve_for_links/sieveforlinks/VirtualLinks") (Or.inr (hw _ (List.mem_of_getElem? (i := 30) rfl))) (Or.inr (hw _ (List.mem_of_getElem? (i := 34) rfl))) (by decide) (t := (.array .double)) (t' := (.array .int)) (by decide) (by decide)))), (F506.other W507 (Or.inr (slot_ne (a0 := a0) (C := "com/example/sieve_for_links/sieveforlinks/VirtualLinks") (Or.inr (hw _ (List.mem_of_getElem? (i := 32) rfl))) (Or.inr (hw _ (List.mem_of_getElem? (i := 34) rfl))) (by decide) (t := (.array .int)) (t' := (.array .int)) (by decide) (by decide)))), F511, ((((VE1.other W492 (Ne.symm (Nat.ne_of_lt lt_o_ad67))).other W497 (Ne.symm (Nat.ne_of_lt lt_o_ad67))).other W502 (Ne.symm (Nat.ne_of_lt lt_o_ad67))).other W507 (Ne.symm (Nat.ne_of_lt lt_o_ad67))), ((((VE2.other W492 (Ne.symm (Nat.ne_of_lt lt_o_am))).other W497 (Ne.symm (Nat.ne_of_lt lt_o_am))).other W502 (Ne.symm (Nat.ne_of_lt lt_o_am))).other W507 (Ne.symm (Nat.ne_of_lt lt_o_am)))⟩)
    ·
      refine OwnW.ifcY (pc' := 243) d2_223 ((if0 _ _).trans (flt hc223_1).2.2.2) (by decide) (by decide) ?_
      refine OwnW.iinc (pc' := 246) (L' := #[.val (.ref o), .val (.ref q0), .val (.ref q1), .val (.int (3 : Int32)), .val (.ref ad3), .val (.ref ad67), .val (.ref am), .val (.ref ad89_0), .val (.int (2 : Int32))]) (d := (1 : Int32)) d2_243 rfl rfl rfl rfl ?_
      refine OwnW.goto (pc' := 212) d2_246 (by decide) (by decide) ?_
      refine OwnW.iload (pc' := 214) d2_212 rfl rfl ?_
      refine OwnW.aloadN (pc' := 215) d2_214 rfl (rfl) rfl ?_
      obtain ⟨cl512, Ar512, qk512, Sz512, Mn512, Hv512, Gf512⟩ := id F91
      refine OwnW.alen (pc' := 216) (x := (4 : Int32)) d2_215 Ar512 (len_of Sz512 Mn512) rfl ?_
      refine OwnW.icmpN (pc' := 219) d2_216 (tlt (by decide)).2.1 rfl ?_
      refine OwnW.aloadN (pc' := 220) d2_219 rfl (rfl) rfl ?_
      refine OwnW.iload (pc' := 222) d2_220 rfl rfl ?_
      obtain ⟨cl513, Ar513, qk513, Sz513, Mn513, Hv513, Gf513⟩ := id F91
      refine OwnW.iaload (pc' := 223) (v := (.int g2)) d2_222 Ar513 (inb_of Sz513 ⟨by decide, by decide⟩) (Hv513.at (inb_of Sz513 ⟨by decide, by decide⟩) rfl) rfl ?_
      by_cases hc223_2 : (0 : Int32) < g2
      ·
        refine OwnW.ifcN (pc' := 226) d2_223 ((if0 _ _).trans (tlt hc223_2).2.2.2) rfl ?_
        refine OwnW.aload (pc' := 228) d2_226 rfl (rfl) rfl ?_
        refine OwnW.aload (pc' := 230) d2_228 rfl (rfl) rfl ?_
        refine OwnW.aloadN (pc' := 231) d2_230 rfl (rfl) rfl ?_
        refine OwnW.iload (pc' := 233) d2_231 rfl rfl ?_
        obtain ⟨cl514, Ar514, qk514, Sz514, Mn514, Hv514, Gf514⟩ := id F91
        refine OwnW.iaload (pc' := 234) (v := (.int g2)) d2_233 Ar514 (inb_of Sz514 ⟨by decide, by decide⟩) (Hv514.at (inb_of Sz514 ⟨by decide, by decide⟩) rfl) rfl ?_
        refine OwnW.dup2 (pc' := 235) d2_234 rfl rfl rfl ?_
        obtain ⟨C515, hC515⟩ : ∃ z : List Int32, z = [(C85.getD 0 0), (C85.getD 1 0), (C85.getD 2 0), (C85.getD 3 0)] := ⟨_, rfl⟩
        have VC515 : Arv Z h89 ad89_0 kc89_0 .int (4 : Int32) (C515.map Value.int) (.int (0 : Int32)) := by rw [hC515]; exact Fc89_0
        have lC515 : C515.length = 4 := by rw [hC515]; rfl
        obtain ⟨cl516, Ar516, qk516, Sz516, Mn516, Hv516, Gf516⟩ := id VC515
        refine OwnW.iaload (pc' := 236) (v := .int (C515.getD g2.toNatClampNeg 0)) d2_235 Ar516 (inb_of Sz516 (own_bd hg2)) (Hv516.at (inb_of Sz516 (own_bd hg2)) (own_gd C515 g2.toNatClampNeg)) rfl ?_
        show GoB2 l Z n0 (Q2 Z o q0 q1 kg ks g0 g1 g2 g3 s0 s1 s2 s3 h0) h89 4 17 236 #[.val (.ref o), .val (.ref q0), .val (.ref q1), .val (.int (3 : Int32)), .val (.ref ad3), .val (.ref ad67), .val (.ref am), .val (.ref ad89_0), .val (.int (2 : Int32))] [(.int (C515.getD g2.toNatClampNeg 0)), (.int g2), (.ref ad89_0), (.ref am)]
        refine OwnW.dupX2 (pc' := 237) d2_236 rfl ?_
        refine OwnW.iconst (pc' := 238) (v := (1 : Int32)) d2_237 rfl rfl ?_
        refine OwnW.iadd (pc' := 239) d2_238 rfl ?_
        obtain ⟨cl517, Ar517, qk517, Sz517, Mn517, Hv517, Gf517⟩ := id VC515
        have bb517 := (own_bd hg2)
        refine OwnW.stI (pc' := 240) d2_239 Ar517 (inb_of Sz517 bb517) ge_ad89_0 rfl ?_
        intro h517 W517
        have sz519 : n0 ≤ h517.size := (by rw [W517.size]; exact sz90)
        obtain ⟨C518, hC518⟩ : ∃ z : List Int32, z = (C515.set g2.toNatClampNeg ((C515.getD g2.toNatClampNeg 0) + (1 : Int32))) := ⟨_, rfl⟩
        have VC518 : Arv Z h517 ad89_0 kc89_0 .int (4 : Int32) (C518.map Value.int) (.int (0 : Int32)) := by rw [hC518, List.map_set]; exact Arv.set Ar517 qk517 Sz517 Mn517 Hv517 Gf517 rfl W517 g2.toNatClampNeg rfl (own_ln (z := (4 : Int32)) lC515 bb517 (by decide))
        have lC518 : C518.length = 4 := by rw [hC518, List.length_set]; exact lC515
        show GoB2 l Z n0 (Q2 Z o q0 q1 kg ks g0 g1 g2 g3 s0 s1 s2 s3 h0) h517 4 17 240 #[.val (.ref o), .val (.ref q0), .val (.ref q1), .val (.int (3 : Int32)), .val (.ref ad3), .val (.ref ad67), .val (.ref am), .val (.ref ad89_0), .val (.int (2 : Int32))] [(.int (C515.getD g2.toNatClampNeg 0)), (.ref am)]
        refine OwnW.iload (pc' := 242) d2_240 rfl rfl ?_
        have F520 := ((VC0.keep K89 nin0).other W517 (Nat.ne_of_lt lt_am_ad89_0))
        obtain ⟨cl521, Ar521, qk521, Sz521, Mn521, Hv521, Gf521⟩ := id F520
        have bb521 := (own_mb12 hg0 hg1 hg2 hg3 hC15 hC18 hC33 hC48 hC63 hC68 hC73 hC79 hC85 hC0 hC515 hC518 htt hc223 hc223_1 hc223_2)
        refine OwnW.stI (pc' := 243) d2_242 Ar521 (inb_of Sz521 bb521) ge_am rfl ?_
        intro h521 W521
        have sz523 : n0 ≤ h521.size := (by rw [W521.size]; exact sz519)
        obtain ⟨C522, hC522⟩ : ∃ z : List Int32, z = (C0.set (C515.getD g2.toNatClampNeg 0).toNatClampNeg (2 : Int32)) := ⟨_, rfl⟩
        have VC522 : Arv Z h521 am km .int tt (C522.map Value.int) (.int (0 : Int32)) := by rw [hC522, List.map_set]; exact Arv.set Ar521 qk521 Sz521 Mn521 Hv521 Gf521 rfl W521 (C515.getD g2.toNatClampNeg 0).toNatClampNeg rfl (own_ln (z := tt) lC0 bb521 rfl)
        have lC522 : C522.length = tt.toNatClampNeg := by rw [hC522, List.length_set]; exact lC0
        show GoB2 l Z n0 (Q2 Z o q0 q1 kg ks g0 g1 g2 g3 s0 s1 s2 s3 h0) h521 4 17 243 #[.val (.ref o), .val (.ref q0), .val (.ref q1), .val (.int (3 : Int32)), .val (.ref ad3), .val (.ref ad67), .val (.ref am), .val (.ref ad89_0), .val (.int (2 : Int32))] []
        refine OwnW.iinc (pc' := 246) (L' := #[.val (.ref o), .val (.ref q0), .val (.ref q1), .val (.int (3 : Int32)), .val (.ref ad3), .val (.ref ad67), .val (.ref am), .val (.ref ad89_0), .val (.int (3 : Int32))]) (d := (1 : Int32)) d2_243 rfl rfl rfl rfl ?_
        refine OwnW.goto (pc' := 212) d2_246 (by decide) (by decide) ?_
        refine OwnW.iload (pc' := 214) d2_212 rfl rfl ?_
        refine OwnW.aloadN (pc' := 215) d2_214 rfl (rfl) rfl ?_
        have F524 := ((F91.other W517 (Nat.ne_of_lt lt_q0_ad89_0)).other W521 (Nat.ne_of_lt lt_q0_am))
        obtain ⟨cl525, Ar525, qk525, Sz525, Mn525, Hv525, Gf525⟩ := id F524
        refine OwnW.alen (pc' := 216) (x := (4 : Int32)) d2_215 Ar525 (len_of Sz525 Mn525) rfl ?_
        refine OwnW.icmpN (pc' := 219) d2_216 (tlt (by decide)).2.1 rfl ?_
        refine OwnW.aloadN (pc' := 220) d2_219 rfl (rfl) rfl ?_
        refine OwnW.iload (pc' := 222) d2_220 rfl rfl ?_
        obtain ⟨cl526, Ar526, qk526, Sz526, Mn526, Hv526, Gf526⟩ := id F524
        refine OwnW.iaload (pc' := 223) (v := (.int g3)) d2_222 Ar526 (inb_of Sz526 ⟨by decide, by decide⟩) (Hv526.at (inb_of Sz526 ⟨by decide, by decide⟩) rfl) rfl ?_
        by_cases hc223_3 : (0 : Int32) < g3
        ·
          refine OwnW.ifcN (pc' := 226) d2_223 ((if0 _ _).trans (tlt hc223_3).2.2.2) rfl ?_
          refine OwnW.aload (pc' := 228) d2_226 rfl (rfl) rfl ?_
          refine OwnW.aload (pc' := 230) d2_228 rfl (rfl) rfl ?_
          refine OwnW.aloadN (pc' := 231) d2_230 rfl (rfl) rfl ?_
          refine OwnW.iload (pc' := 233) d2_231 rfl rfl ?_
          obtain ⟨cl527, Ar527, qk527, Sz527, Mn527, Hv527, Gf527⟩ := id F524
          refine OwnW.iaload (pc' := 234) (v := (.int g3)) d2_233 Ar527 (inb_of Sz527 ⟨by decide, by decide⟩) (Hv527.at (inb_of Sz527 ⟨by decide, by decide⟩) rfl) rfl ?_
          refine OwnW.dup2 (pc' := 235) d2_234 rfl rfl rfl ?_
          have F528 := (VC518.other W521 (Ne.symm (Nat.ne_of_lt lt_am_ad89_0)))
          obtain ⟨cl529, Ar529, qk529, Sz529, Mn529, Hv529, Gf529⟩ := id F528
          refine OwnW.iaload (pc' := 236) (v := .int (C518.getD g3.toNatClampNeg 0)) d2_235 Ar529 (inb_of Sz529 (own_bd hg3)) (Hv529.at (inb_of Sz529 (own_bd hg3)) (own_gd C518 g3.toNatClampNeg)) rfl ?_
          show GoB2 l Z n0 (Q2 Z o q0 q1 kg ks g0 g1 g2 g3 s0 s1 s2 s3 h0) h521 4 17 236 #[.val (.ref o), .val (.ref q0), .val (.ref q1), .val (.int (3 : Int32)), .val (.ref ad3), .val (.ref ad67), .val (.ref am), .val (.ref ad89_0), .val (.int (3 : Int32))] [(.int (C518.getD g3.toNatClampNeg 0)), (.int g3), (.ref ad89_0), (.ref am)]
          refine OwnW.dupX2 (pc' := 237) d2_236 rfl ?_
          refine OwnW.iconst (pc' := 238) (v := (1 : Int32)) d2_237 rfl rfl ?_
          refine OwnW.iadd (pc' := 239) d2_238 rfl ?_
          obtain ⟨cl530, Ar530, qk530, Sz530, Mn530, Hv530, Gf530⟩ := id F528
          have bb530 := (own_bd hg3)
          refine OwnW.stI (pc' := 240) d2_239 Ar530 (inb_of Sz530 bb530) ge_ad89_0 rfl ?_
          intro h530 W530
          have sz532 : n0 ≤ h530.size := (by rw [W530.size]; exact sz523)
          obtain ⟨C531, hC531⟩ : ∃ z : List Int32, z = (C518.set g3.toNatClampNeg ((C518.getD g3.toNatClampNeg 0) + (1 : Int32))) := ⟨_, rfl⟩
          have VC531 : Arv Z h530 ad89_0 kc89_0 .int (4 : Int32) (C531.map Value.int) (.int (0 : Int32)) := by rw [hC531, List.map_set]; exact Arv.set Ar530 qk530 Sz530 Mn530 Hv530 Gf530 rfl W530 g3.toNatClampNeg rfl (own_ln (z := (4 : Int32)) lC518 bb530 (by decide))
          have lC531 : C531.length = 4 := by rw [hC531, List.length_set]; exact lC518
          show GoB2 l Z n0 (Q2 Z o q0 q1 kg ks g0 g1 g2 g3 s0 s1 s2 s3 h0) h530 4 17 240 #[.val (.ref o), .val (.ref q0), .val (.ref q1), .val (.int (3 : Int32)), .val (.ref ad3), .val (.ref ad67), .val (.ref am), .val (.ref ad89_0), .val (.int (3 : Int32))] [(.int (C518.getD g3.toNatClampNeg 0)), (.ref am)]
          refine OwnW.iload (pc' := 242) d2_240 rfl rfl ?_
          have F533 := (VC522.other W530 (Nat.ne_of_lt lt_am_ad89_0))
          obtain ⟨cl534, Ar534, qk534, Sz534, Mn534, Hv534, Gf534⟩ := id F533
          have bb534 := (own_mb13 hg0 hg1 hg2 hg3 hC15 hC18 hC33 hC48 hC63 hC68 hC73 hC79 hC85 hC0 hC515 hC518 hC522 hC531 htt hc223 hc223_1 hc223_2 hc223_3)
          refine OwnW.stI (pc' := 243) d2_242 Ar534 (inb_of Sz534 bb534) ge_am rfl ?_
          intro h534 W534
          have sz536 : n0 ≤ h534.size := (by rw [W534.size]; exact sz532)
          obtain ⟨C535, hC535⟩ : ∃ z : List Int32, z = (C522.set (C518.getD g3.toNatClampNeg 0).toNatClampNeg (3 : Int32)) := ⟨_, rfl⟩
          have VC535 : Arv Z h534 am km .int tt (C535.map Value.int) (.int (0 : Int32)) := by rw [hC535, List.map_set]; exact Arv.set Ar534 qk534 Sz534 Mn534 Hv534 Gf534 rfl W534 (C518.getD g3.toNatClampNeg 0).toNatClampNeg rfl (own_ln (z := tt) lC522 bb534 rfl)
          have lC535 : C535.length = tt.toNatClampNeg := by rw [hC535, List.length_set]; exact lC522
          show GoB2 l Z n0 (Q2 Z o q0 q1 kg ks g0 g1 g2 g3 s0 s1 s2 s3 h0) h534 4 17 243 #[.val (.ref o), .val (.ref q0), .val (.ref q1), .val (.int (3 : Int32)), .val (.ref ad3), .val (.ref ad67), .val (.ref am), .val (.ref ad89_0), .val (.int (3 : Int32))] []
          refine OwnW.iinc (pc' := 246) (L' := #[.val (.ref o), .val (.ref q0), .val (.ref q1), .val (.int (3 : Int32)), .val (.ref ad3), .val (.ref ad67), .val (.ref am), .val (.ref ad89_0), .val (.int (4 : Int32))]) (d := (1 : Int32)) d2_243 rfl rfl rfl rfl ?_
          refine OwnW.goto (pc' := 212) d2_246 (by decide) (by decide) ?_
          refine OwnW.iload (pc' := 214) d2_212 rfl rfl ?_
          refine OwnW.aloadN (pc' := 215) d2_214 rfl (rfl) rfl ?_
          have F537 := ((F524.other W530 (Nat.ne_of_lt lt_q0_ad89_0)).other W534 (Nat.ne_of_lt lt_q0_am))
          obtain ⟨cl538, Ar538, qk538, Sz538, Mn538, Hv538, Gf538⟩ := id F537
          refine OwnW.alen (pc' := 216) (x := (4 : Int32)) d2_215 Ar538 (len_of Sz538 Mn538) rfl ?_
          refine OwnW.icmpY (pc' := 249) d2_216 (flt (by decide)).2.1 (by decide) (by decide) ?_
          have he := own_end12 hg0 hg1 hg2 hg3 hC15 hC18 hC33 hC48 hC63 hC68 hC73 hC79 hC85 hC0 hC515 hC518 hC522 hC531 hC535 htt hc223 hc223_1 hc223_2 hc223_3
          have F539 := (((((F88.keep K89 nin0).other W517 (Nat.ne_of_lt lt_ad67_ad89_0)).other W521 (Nat.ne_of_lt lt_ad67_am)).other W530 (Nat.ne_of_lt lt_ad67_ad89_0)).other W534 (Nat.ne_of_lt lt_ad67_am))
          have VE1 : Arv Z h534 ad67 kc67 .int (5 : Int32) ((own_SL g0 g1 g2 g3).map Value.int) (.int (0 : Int32)) := by rw [← he.1]; exact F539
          have VE2 : Arv Z h534 am km .int (own_T g0 g1 g2 g3) ((own_ML g0 g1 g2 g3).map Value.int) (.int (0 : Int32)) := by rw [← he.2.1, ← ht2.2.2]; exact VC535
          refine OwnW.aloadN (pc' := 250) d2_249 rfl (rfl) rfl ?_
          refine OwnW.aloadN (pc' := 251) d2_250 rfl (rfl) rfl ?_
          have F541 := (((((((((((((((F_groups.ext E3).other W17 (Or.inl (Nat.ne_of_lt lt_o_ad3))).other W32 (Or.inl (Nat.ne_of_lt lt_o_ad3))).other W47 (Or.inl (Nat.ne_of_lt lt_o_ad3))).other W62 (Or.inl (Nat.ne_of_lt lt_o_ad3))).ext E67).other W72 (Or.inl (Nat.ne_of_lt lt_o_ad67))).other W78 (Or.inl (Nat.ne_of_lt lt_o_ad67))).other W84 (Or.inl (Nat.ne_of_lt lt_o_ad67))).ext Em).keep K89 nin0).other W517 (Or.inl (Nat.ne_of_lt lt_o_ad89_0))).other W521 (Or.inl (Nat.ne_of_lt lt_o_am))).other W530 (Or.inl (Nat.ne_of_lt lt_o_ad89_0))).other W534 (Or.inl (Nat.ne_of_lt lt_o_am)))
          have F542 := (((((((((((((((E_o.ext E3).wr W17).wr W32).wr W47).wr W62).ext E67).wr W72).wr W78).wr W84).ext Em).keep K89).wr W517).wr W521).wr W530).wr W534)
          refine OwnW.putF (a0 := a0) (pc' := 254) d2_251 (host := "") (Or.inl (hw _ (List.mem_of_getElem? (i := 27) rfl))) Via.refl F541 F542 (Or.inr ⟨(hw _ (List.mem_of_getElem? (i := 28) rfl)), rfl, rfl⟩) (hw _ (List.mem_of_getElem? (i := 7) rfl)) (ty := (.array .int)) (by decide) rfl rfl g_o rfl ?_
          intro h540 W540
          have sz543 : n0 ≤ h540.size := (by rw [W540.size]; exact sz536)
          have F544 := F541.same W540
          refine OwnW.aloadN (pc' := 255) d2_254 rfl (rfl) rfl ?_
          refine OwnW.aloadN (pc' := 256) d2_255 rfl (rfl) rfl ?_
          have F546 := ((((((((((((((((F_shares.ext E3).other W17 (Or.inl (Nat.ne_of_lt lt_o_ad3))).other W32 (Or.inl (Nat.ne_of_lt lt_o_ad3))).other W47 (Or.inl (Nat.ne_of_lt lt_o_ad3))).other W62 (Or.inl (Nat.ne_of_lt lt_o_ad3))).ext E67).other W72 (Or.inl (Nat.ne_of_lt lt_o_ad67))).other W78 (Or.inl (Nat.ne_of_lt lt_o_ad67))).other W84 (Or.inl (Nat.ne_of_lt lt_o_ad67))).ext Em).keep K89 nin0).other W517 (Or.inl (Nat.ne_of_lt lt_o_ad89_0))).other W521 (Or.inl (Nat.ne_of_lt lt_o_am))).other W530 (Or.inl (Nat.ne_of_lt lt_o_ad89_0))).other W534 (Or.inl (Nat.ne_of_lt lt_o_am))).other W540 (Or.inr (slot_ne (a0 := a0) (C := "com/example/sieve_for_links/sieveforlinks/VirtualLinks") (Or.inr (hw _ (List.mem_of_getElem? (i := 30) rfl))) (Or.inr (hw _ (List.mem_of_getElem? (i := 28) rfl))) (by decide) (t := (.array .double)) (t' := (.array .int)) (by decide) (by decide))))
          have F547 := (F542.wr W540)
          refine OwnW.putF (a0 := a0) (pc' := 259) d2_256 (host := "") (Or.inl (hw _ (List.mem_of_getElem? (i := 29) rfl))) Via.refl F546 F547 (Or.inr ⟨(hw _ (List.mem_of_getElem? (i := 30) rfl)), rfl, rfl⟩) (hw _ (List.mem_of_getElem? (i := 7) rfl)) (ty := (.array .double)) (by decide) rfl rfl g_o rfl ?_
          intro h545 W545
          have sz548 : n0 ≤ h545.size := (by rw [W545.size]; exact sz543)
          have F549 := F546.same W545
          refine OwnW.aloadN (pc' := 260) d2_259 rfl (rfl) rfl ?_
          refine OwnW.aload (pc' := 262) d2_260 rfl (rfl) rfl ?_
          have F551 := (((((((((((((((((F_members.ext E3).other W17 (Or.inl (Nat.ne_of_lt lt_o_ad3))).other W32 (Or.inl (Nat.ne_of_lt lt_o_ad3))).other W47 (Or.inl (Nat.ne_of_lt lt_o_ad3))).other W62 (Or.inl (Nat.ne_of_lt lt_o_ad3))).ext E67).other W72 (Or.inl (Nat.ne_of_lt lt_o_ad67))).other W78 (Or.inl (Nat.ne_of_lt lt_o_ad67))).other W84 (Or.inl (Nat.ne_of_lt lt_o_ad67))).ext Em).keep K89 nin0).other W517 (Or.inl (Nat.ne_of_lt lt_o_ad89_0))).other W521 (Or.inl (Nat.ne_of_lt lt_o_am))).other W530 (Or.inl (Nat.ne_of_lt lt_o_ad89_0))).other W534 (Or.inl (Nat.ne_of_lt lt_o_am))).other W540 (Or.inr (slot_ne (a0 := a0) (C := "com/example/sieve_for_links/sieveforlinks/VirtualLinks") (Or.inr (hw _ (List.mem_of_getElem? (i := 32) rfl))) (Or.inr (hw _ (List.mem_of_getElem? (i := 28) rfl))) (by decide) (t := (.array .int)) (t' := (.array .int)) (by decide) (by decide)))).other W545 (Or.inr (slot_ne (a0 := a0) (C := "com/example/sieve_for_links/sieveforlinks/VirtualLinks") (Or.inr (hw _ (List.mem_of_getElem? (i := 32) rfl))) (Or.inr (hw _ (List.mem_of_getElem? (i := 30) rfl))) (by decide) (t := (.array .int)) (t' := (.array .double)) (by decide) (by decide))))
          have F552 := (F547.wr W545)
          refine OwnW.putF (a0 := a0) (pc' := 265) d2_262 (host := "") (Or.inl (hw _ (List.mem_of_getElem? (i := 31) rfl))) Via.refl F551 F552 (Or.inr ⟨(hw _ (List.mem_of_getElem? (i := 32) rfl)), rfl, rfl⟩) (hw _ (List.mem_of_getElem? (i := 7) rfl)) (ty := (.array .int)) (by decide) rfl rfl g_o rfl ?_
          intro h550 W550
          have sz553 : n0 ≤ h550.size := (by rw [W550.size]; exact sz548)
          have F554 := F551.same W550
          refine OwnW.aloadN (pc' := 266) d2_265 rfl (rfl) rfl ?_
          refine OwnW.aload (pc' := 268) d2_266 rfl (rfl) rfl ?_
          have F556 := ((((((((((((((((((F_memberStarts.ext E3).other W17 (Or.inl (Nat.ne_of_lt lt_o_ad3))).other W32 (Or.inl (Nat.ne_of_lt lt_o_ad3))).other W47 (Or.inl (Nat.ne_of_lt lt_o_ad3))).other W62 (Or.inl (Nat.ne_of_lt lt_o_ad3))).ext E67).other W72 (Or.inl (Nat.ne_of_lt lt_o_ad67))).other W78 (Or.inl (Nat.ne_of_lt lt_o_ad67))).other W84 (Or.inl (Nat.ne_of_lt lt_o_ad67))).ext Em).keep K89 nin0).other W517 (Or.inl (Nat.ne_of_lt lt_o_ad89_0))).other W521 (Or.inl (Nat.ne_of_lt lt_o_am))).other W530 (Or.inl (Nat.ne_of_lt lt_o_ad89_0))).other W534 (Or.inl (Nat.ne_of_lt lt_o_am))).other W540 (Or.inr (slot_ne (a0 := a0) (C := "com/example/sieve_for_links/sieveforlinks/VirtualLinks") (Or.inr (hw _ (List.mem_of_getElem? (i := 34) rfl))) (Or.inr (hw _ (List.mem_of_getElem? (i := 28) rfl))) (by decide) (t := (.array .int)) (t' := (.array .int)) (by decide) (by decide)))).other W545 (Or.inr (slot_ne (a0 := a0) (C := "com/example/sieve_for_links/sieveforlinks/VirtualLinks") (Or.inr (hw _ (List.mem_of_getElem? (i := 34) rfl))) (Or.inr (hw _ (List.mem_of_getElem? (i := 30) rfl))) (by decide) (t := (.array .int)) (t' := (.array .double)) (by decide) (by decide)))).other W550 (Or.inr (slot_ne (a0 := a0) (C := "com/example/sieve_for_links/sieveforlinks/VirtualLinks") (Or.inr (hw _ (List.mem_of_getElem? (i := 34) rfl))) (Or.inr (hw _ (List.mem_of_getElem? (i := 32) rfl))) (by decide) (t := (.array .int)) (t' := (.array .int)) (by decide) (by decide))))
          have F557 := (F552.wr W550)
          refine OwnW.putF (a0 := a0) (pc' := 271) d2_268 (host := "") (Or.inl (hw _ (List.mem_of_getElem? (i := 33) rfl))) Via.refl F556 F557 (Or.inr ⟨(hw _ (List.mem_of_getElem? (i := 34) rfl)), rfl, rfl⟩) (hw _ (List.mem_of_getElem? (i := 7) rfl)) (ty := (.array .int)) (by decide) rfl rfl g_o rfl ?_
          intro h555 W555
          have sz558 : n0 ≤ h555.size := (by rw [W555.size]; exact sz553)
          have F559 := F556.same W555
          exact OwnW.ret0 d2_271 rfl (by decide) (by decide) (⟨ad67, am, kc67, km, rfl, ((((((((((((((((((((Keep.refl h0 [o]).ext E3).wr W17 (Or.inr (Nat.le_trans (Nat.le_refl _) (Nat.le_of_eq gq3.symm)))).wr W32 (Or.inr (Nat.le_trans (Nat.le_refl _) (Nat.le_of_eq gq3.symm)))).wr W47 (Or.inr (Nat.le_trans (Nat.le_refl _) (Nat.le_of_eq gq3.symm)))).wr W62 (Or.inr (Nat.le_trans (Nat.le_refl _) (Nat.le_of_eq gq3.symm)))).ext E67).wr W72 (Or.inr (Nat.le_trans (Nat.le_trans (Nat.le_trans (Nat.le_trans (Nat.le_trans (Nat.le_trans (Nat.le_refl _) E3.1) (Nat.le_of_eq W17.size.symm)) (Nat.le_of_eq W32.size.symm)) (Nat.le_of_eq W47.size.symm)) (Nat.le_of_eq W62.size.symm)) (Nat.le_of_eq gq67.symm)))).wr W78 (Or.inr (Nat.le_trans (Nat.le_trans (Nat.le_trans (Nat.le_trans (Nat.le_trans (Nat.le_trans (Nat.le_refl _) E3.1) (Nat.le_of_eq W17.size.symm)) (Nat.le_of_eq W32.size.symm)) (Nat.le_of_eq W47.size.symm)) (Nat.le_of_eq W62.size.symm)) (Nat.le_of_eq gq67.symm)))).wr W84 (Or.inr (Nat.le_trans (Nat.le_trans (Nat.le_trans (Nat.le_trans (Nat.le_trans (Nat.le_trans (Nat.le_refl _) E3.1) (Nat.le_of_eq W17.size.symm)) (Nat.le_of_eq W32.size.symm)) (Nat.le_of_eq W47.size.symm)) (Nat.le_of_eq W62.size.symm)) (Nat.le_of_eq gq67.symm)))).ext Em).trans K89 all0).wr W517 (Or.inr (Nat.le_trans (Nat.le_trans (Nat.le_trans (Nat.le_trans (Nat.le_trans (Nat.le_trans (Nat.le_trans (Nat.le_trans (Nat.le_trans (Nat.le_trans (Nat.le_trans (Nat.le_refl _) E3.1) (Nat.le_of_eq W17.size.symm)) (Nat.le_of_eq W32.size.symm)) (Nat.le_of_eq W47.size.symm)) (Nat.le_of_eq W62.size.symm)) E67.1) (Nat.le_of_eq W72.size.symm)) (Nat.le_of_eq W78.size.symm)) (Nat.le_of_eq W84.size.symm)) Em.1) gl89_0))).wr W521 (Or.inr (Nat.le_trans (Nat.le_trans (Nat.le_trans (Nat.le_trans (Nat.le_trans (Nat.le_trans (Nat.le_trans (Nat.le_trans (Nat.le_trans (Nat.le_trans (Nat.le_refl _) E3.1) (Nat.le_of_eq W17.size.symm)) (Nat.le_of_eq W32.size.symm)) (Nat.le_of_eq W47.size.symm)) (Nat.le_of_eq W62.size.symm)) E67.1) (Nat.le_of_eq W72.size.symm)) (Nat.le_of_eq W78.size.symm)) (Nat.le_of_eq W84.size.symm)) (Nat.le_of_eq gm.symm)))).wr W530 (Or.inr (Nat.le_trans (Nat.le_trans (Nat.le_trans (Nat.le_trans (Nat.le_trans (Nat.le_trans (Nat.le_trans (Nat.le_trans (Nat.le_trans (Nat.le_trans (Nat.le_trans (Nat.le_refl _) E3.1) (Nat.le_of_eq W17.size.symm)) (Nat.le_of_eq W32.size.symm)) (Nat.le_of_eq W47.size.symm)) (Nat.le_of_eq W62.size.symm)) E67.1) (Nat.le_of_eq W72.size.symm)) (Nat.le_of_eq W78.size.symm)) (Nat.le_of_eq W84.size.symm)) Em.1) gl89_0))).wr W534 (Or.inr (Nat.le_trans (Nat.le_trans (Nat.le_trans (Nat.le_trans (Nat.le_trans (Nat.le_trans (Nat.le_trans (Nat.le_trans (Nat.le_trans (Nat.le_trans (Nat.le_refl _) E3.1) (Nat.le_of_eq W17.size.symm)) (Nat.le_of_eq W32.size.symm)) (Nat.le_of_eq W47.size.symm)) (Nat.le_of_eq W62.size.symm)) E67.1) (Nat.le_of_eq W72.size.symm)) (Nat.le_of_eq W78.size.symm)) (Nat.le_of_eq W84.size.symm)) (Nat.le_of_eq gm.symm)))).wr W540 (Or.inl (List.mem_of_getElem? (i := 0) rfl))).wr W545 (Or.inl (List.mem_of_getElem? (i := 0) rfl))).wr W550 (Or.inl (List.mem_of_getElem? (i := 0) rfl))).wr W555 (Or.inl (List.mem_of_getElem? (i := 0) rfl))), (Nat.le_trans (Nat.le_trans (Nat.le_trans (Nat.le_trans (Nat.le_trans (Nat.le_trans (Nat.le_refl _) E3.1) (Nat.le_of_eq W17.size.symm)) (Nat.le_of_eq W32.size.symm)) (Nat.le_of_eq W47.size.symm)) (Nat.le_of_eq W62.size.symm)) (Nat.le_of_eq gq67.symm)), (Nat.le_trans (Nat.le_trans (Nat.le_trans (Nat.le_trans (Nat.le_trans (Nat.le_trans (Nat.le_trans (Nat.le_trans (Nat.le_trans (Nat.le_trans (Nat.le_refl _) E3.1) (Nat.le_of_eq W17.size.symm)) (Nat.le_of_eq W32.size.symm)) (Nat.le_of_eq W47.size.symm)) (Nat.le_of_eq W62.size.symm)) E67.1) (Nat.le_of_eq W72.size.symm)) (Nat.le_of_eq W78.size.symm)) (Nat.le_of_eq W84.size.symm)) (Nat.le_of_eq gm.symm)), (Nat.ne_of_lt lt_ad67_am), (F557.wr W555), ((F549.other W550 (Or.inr (slot_ne (a0 := a0) (C := "com/example/sieve_for_links/sieveforlinks/VirtualLinks") (Or.inr (hw _ (List.mem_of_getElem? (i := 30) rfl))) (Or.inr (hw _ (List.mem_of_getElem? (i := 32) rfl))) (by decide) (t := (.array .double)) (t' := (.array .int)) (by decide) (by decide)))).other W555 (Or.inr (slot_ne (a0 := a0) (C := "com/example/sieve_for_links/sieveforlinks/VirtualLinks") (Or.inr (hw _ (List.mem_of_getElem? (i := 30) rfl))) (Or.inr (hw _ (List.mem_of_getElem? (i := 34) rfl))) (by decide) (t := (.array .double)) (t' := (.array .int)) (by decide) (by decide)))), (F554.other W555 (Or.inr (slot_ne (a0 := a0) (C := "com/example/sieve_for_links/sieveforlinks/VirtualLinks") (Or.inr (hw _ (List.mem_of_getElem? (i := 32) rfl))) (Or.inr (hw _ (List.mem_of_getElem? (i := 34) rfl))) (by decide) (t := (.array .int)) (t' := (.array .int)) (by decide) (by decide)))), F559, ((((VE1.other W540 (Ne.symm (Nat.ne_of_lt lt_o_ad67))).other W545 (Ne.symm (Nat.ne_of_lt lt_o_ad67))).other W550 (Ne.symm (Nat.ne_of_lt lt_o_ad67))).other W555 (Ne.symm (Nat.ne_of_lt lt_o_ad67))), ((((VE2.other W540 (Ne.symm (Nat.ne_of_lt lt_o_am))).other W545 (Ne.symm (Nat.ne_of_lt lt_o_am))).other W550 (Ne.symm (Nat.ne_of_lt lt_o_am))).other W555 (Ne.symm (Nat.ne_of_lt lt_o_am)))⟩)
        ·
          refine OwnW.ifcY (pc' := 243) d2_223 ((if0 _ _).trans (flt hc223_3).2.2.2) (by decide) (by decide) ?_
          refine OwnW.iinc (pc' := 246) (L' := #[.val (.ref o), .val (.ref q0), .val (.ref q1), .val (.int (3 : Int32)), .val (.ref ad3), .val (.ref ad67), .val (.ref am), .val (.ref ad89_0), .val (.int (4 : Int32))]) (d := (1 : Int32)) d2_243 rfl rfl rfl rfl ?_
          refine OwnW.goto (pc' := 212) d2_246 (by decide) (by decide) ?_
          refine OwnW.iload (pc' := 214) d2_212 rfl rfl ?_
          refine OwnW.aloadN (pc' := 215) d2_214 rfl (rfl) rfl ?_
          obtain ⟨cl560, Ar560, qk560, Sz560, Mn560, Hv560, Gf560⟩ := id F524
          refine OwnW.alen (pc' := 216) (x := (4 : Int32)) d2_215 Ar560 (len_of Sz560 Mn560) rfl ?_
          refine OwnW.icmpY (pc' := 249) d2_216 (flt (by decide)).2.1 (by decide) (by decide) ?_
          have he := own_end13 hg0 hg1 hg2 hg3 hC15 hC18 hC33 hC48 hC63 hC68 hC73 hC79 hC85 hC0 hC515 hC518 hC522 htt hc223 hc223_1 hc223_2 hc223_3
          have F561 := (((F88.keep K89 nin0).other W517 (Nat.ne_of_lt lt_ad67_ad89_0)).other W521 (Nat.ne_of_lt lt_ad67_am))
          have VE1 : Arv Z h521 ad67 kc67 .int (5 : Int32) ((own_SL g0 g1 g2 g3).map Value.int) (.int (0 : Int32)) := by rw [← he.1]; exact F561
          have VE2 : Arv Z h521 am km .int (own_T g0 g1 g2 g3) ((own_ML g0 g1 g2 g3).map Value.int) (.int (0 : Int32)) := by rw [← he.2.1, ← ht2.2.2]; exact VC522
          refine OwnW.aloadN (pc' := 250) d2_249 rfl (rfl) rfl ?_
          refine OwnW.aloadN (pc' := 251) d2_250 rfl (rfl) rfl ?_
          have F563 := (((((((((((((F_groups.ext E3).other W17 (Or.inl (Nat.ne_of_lt lt_o_ad3))).other W32 (Or.inl (Nat.ne_of_lt lt_o_ad3))).other W47 (Or.inl (Nat.ne_of_lt lt_o_ad3))).other W62 (Or.inl (Nat.ne_of_lt lt_o_ad3))).ext E67).other W72 (Or.inl (Nat.ne_of_lt lt_o_ad67))).other W78 (Or.inl (Nat.ne_of_lt lt_o_ad67))).other W84 (Or.inl (Nat.ne_of_lt lt_o_ad67))).ext Em).keep K89 nin0).other W517 (Or.inl (Nat.ne_of_lt lt_o_ad89_0))).other W521 (Or.inl (Nat.ne_of_lt lt_o_am)))
          have F564 := (((((((((((((E_o.ext E3).wr W17).wr W32).wr W47).wr W62).ext E67).wr W72).wr W78).wr W84).ext Em).keep K89).wr W517).wr W521)
          refine OwnW.putF (a0 := a0) (pc' := 254) d2_251 (host := "") (Or.inl (hw _ (List.mem_of_getElem? (i := 27) rfl))) Via.refl F563 F564 (Or.inr ⟨(hw _ (List.mem_of_getElem? (i := 28) rfl)), rfl, rfl⟩) (hw _ (List.mem_of_getElem? (i := 7) rfl)) (ty := (.array .int)) (by decide) rfl rfl g_o rfl ?_
          intro h562 W562
          have sz565 : n0 ≤ h562.size := (by rw [W562.size]; exact sz523)
          have F566 := F563.same W562
          refine OwnW.aloadN (pc' := 255) d2_254 rfl (rfl) rfl ?_
          refine OwnW.aloadN (pc' := 256) d2_255 rfl (rfl) rfl ?_
          have F568 := ((((((((((((((F_shares.ext E3).other W17 (Or.inl (Nat.ne_of_lt lt_o_ad3))).other W32 (Or.inl (Nat.ne_of_lt lt_o_ad3))).other W47 (Or.inl (Nat.ne_of_lt lt_o_ad3))).other W62 (Or.inl (Nat.ne_of_lt lt_o_ad3))).ext E67).other W72 (Or.inl (Nat.ne_of_lt lt_o_ad67))).other W78 (Or.inl (Nat.ne_of_lt lt_o_ad67))).other W84 (Or.inl (Nat.ne_of_lt lt_o_ad67))).ext Em).keep K89 nin0).other W517 (Or.inl (Nat.ne_of_lt lt_o_ad89_0))).other W521 (Or.inl (Nat.ne_of_lt lt_o_am))).other W562 (Or.inr (slot_ne (a0 := a0) (C := "com/example/sieve_for_links/sieveforlinks/VirtualLinks") (Or.inr (hw _ (List.mem_of_getElem? (i := 30) rfl))) (Or.inr (hw _ (List.mem_of_getElem? (i := 28) rfl))) (by decide) (t := (.array .double)) (t' := (.array .int)) (by decide) (by decide))))
          have F569 := (F564.wr W562)
          refine OwnW.putF (a0 := a0) (pc' := 259) d2_256 (host := "") (Or.inl (hw _ (List.mem_of_getElem? (i := 29) rfl))) Via.refl F568 F569 (Or.inr ⟨(hw _ (List.mem_of_getElem? (i := 30) rfl)), rfl, rfl⟩) (hw _ (List.mem_of_getElem? (i := 7) rfl)) (ty := (.array .double)) (by decide) rfl rfl g_o rfl ?_
          intro h567 W567
          have sz570 : n0 ≤ h567.size := (by rw [W567.size]; exact sz565)
          have F571 := F568.same W567
          refine OwnW.aloadN (pc' := 260) d2_259 rfl (rfl) rfl ?_
          refine OwnW.aload (pc' := 262) d2_260 rfl (rfl) rfl ?_
          have F573 := (((((((((((((((F_members.ext E3).other W17 (Or.inl (Nat.ne_of_lt lt_o_ad3))).other W32 (Or.inl (Nat.ne_of_lt lt_o_ad3))).other W47 (Or.inl (Nat.ne_of_lt lt_o_ad3))).other W62 (Or.inl (Nat.ne_of_lt lt_o_ad3))).ext E67).other W72 (Or.inl (Nat.ne_of_lt lt_o_ad67))).other W78 (Or.inl (Nat.ne_of_lt lt_o_ad67))).other W84 (Or.inl (Nat.ne_of_lt lt_o_ad67))).ext Em).keep K89 nin0).other W517 (Or.inl (Nat.ne_of_lt lt_o_ad89_0))).other W521 (Or.inl (Nat.ne_of_lt lt_o_am))).other W562 (Or.inr (slot_ne (a0 := a0) (C := "com/example/sieve_for_links/sieveforlinks/VirtualLinks") (Or.inr (hw _ (List.mem_of_getElem? (i := 32) rfl))) (Or.inr (hw _ (List.mem_of_getElem? (i := 28) rfl))) (by decide) (t := (.array .int)) (t' := (.array .int)) (by decide) (by decide)))).other W567 (Or.inr (slot_ne (a0 := a0) (C := "com/example/sieve_for_links/sieveforlinks/VirtualLinks") (Or.inr (hw _ (List.mem_of_getElem? (i := 32) rfl))) (Or.inr (hw _ (List.mem_of_getElem? (i := 30) rfl))) (by decide) (t := (.array .int)) (t' := (.array .double)) (by decide) (by decide))))
          have F574 := (F569.wr W567)
          refine OwnW.putF (a0 := a0) (pc' := 265) d2_262 (host := "") (Or.inl (hw _ (List.mem_of_getElem? (i := 31) rfl))) Via.refl F573 F574 (Or.inr ⟨(hw _ (List.mem_of_getElem? (i := 32) rfl)), rfl, rfl⟩) (hw _ (List.mem_of_getElem? (i := 7) rfl)) (ty := (.array .int)) (by decide) rfl rfl g_o rfl ?_
          intro h572 W572
          have sz575 : n0 ≤ h572.size := (by rw [W572.size]; exact sz570)
          have F576 := F573.same W572
          refine OwnW.aloadN (pc' := 266) d2_265 rfl (rfl) rfl ?_
          refine OwnW.aload (pc' := 268) d2_266 rfl (rfl) rfl ?_
          have F578 := ((((((((((((((((F_memberStarts.ext E3).other W17 (Or.inl (Nat.ne_of_lt lt_o_ad3))).other W32 (Or.inl (Nat.ne_of_lt lt_o_ad3))).other W47 (Or.inl (Nat.ne_of_lt lt_o_ad3))).other W62 (Or.inl (Nat.ne_of_lt lt_o_ad3))).ext E67).other W72 (Or.inl (Nat.ne_of_lt lt_o_ad67))).other W78 (Or.inl (Nat.ne_of_lt lt_o_ad67))).other W84 (Or.inl (Nat.ne_of_lt lt_o_ad67))).ext Em).keep K89 nin0).other W517 (Or.inl (Nat.ne_of_lt lt_o_ad89_0))).other W521 (Or.inl (Nat.ne_of_lt lt_o_am))).other W562 (Or.inr (slot_ne (a0 := a0) (C := "com/example/sieve_for_links/sieveforlinks/VirtualLinks") (Or.inr (hw _ (List.mem_of_getElem? (i := 34) rfl))) (Or.inr (hw _ (List.mem_of_getElem? (i := 28) rfl))) (by decide) (t := (.array .int)) (t' := (.array .int)) (by decide) (by decide)))).other W567 (Or.inr (slot_ne (a0 := a0) (C := "com/example/sieve_for_links/sieveforlinks/VirtualLinks") (Or.inr (hw _ (List.mem_of_getElem? (i := 34) rfl))) (Or.inr (hw _ (List.mem_of_getElem? (i := 30) rfl))) (by decide) (t := (.array .int)) (t' := (.array .double)) (by decide) (by decide)))).other W572 (Or.inr (slot_ne (a0 := a0) (C := "com/example/sieve_for_links/sieveforlinks/VirtualLinks") (Or.inr (hw _ (List.mem_of_getElem? (i := 34) rfl))) (Or.inr (hw _ (List.mem_of_getElem? (i := 32) rfl))) (by decide) (t := (.array .int)) (t' := (.array .int)) (by decide) (by decide))))
          have F579 := (F574.wr W572)
          refine OwnW.putF (a0 := a0) (pc' := 271) d2_268 (host := "") (Or.inl (hw _ (List.mem_of_getElem? (i := 33) rfl))) Via.refl F578 F579 (Or.inr ⟨(hw _ (List.mem_of_getElem? (i := 34) rfl)), rfl, rfl⟩) (hw _ (List.mem_of_getElem? (i := 7) rfl)) (ty := (.array .int)) (by decide) rfl rfl g_o rfl ?_
          intro h577 W577
          have sz580 : n0 ≤ h577.size := (by rw [W577.size]; exact sz575)
          have F581 := F578.same W577
          exact OwnW.ret0 d2_271 rfl (by decide) (by decide) (⟨ad67, am, kc67, km, rfl, ((((((((((((((((((Keep.refl h0 [o]).ext E3).wr W17 (Or.inr (Nat.le_trans (Nat.le_refl _) (Nat.le_of_eq gq3.symm)))).wr W32 (Or.inr (Nat.le_trans (Nat.le_refl _) (Nat.le_of_eq gq3.symm)))).wr W47 (Or.inr (Nat.le_trans (Nat.le_refl _) (Nat.le_of_eq gq3.symm)))).wr W62 (Or.inr (Nat.le_trans (Nat.le_refl _) (Nat.le_of_eq gq3.symm)))).ext E67).wr W72 (Or.inr (Nat.le_trans (Nat.le_trans (Nat.le_trans (Nat.le_trans (Nat.le_trans (Nat.le_trans (Nat.le_refl _) E3.1) (Nat.le_of_eq W17.size.symm)) (Nat.le_of_eq W32.size.symm)) (Nat.le_of_eq W47.size.symm)) (Nat.le_of_eq W62.size.symm)) (Nat.le_of_eq gq67.symm)))).wr W78 (Or.inr (Nat.le_trans (Nat.le_trans (Nat.le_trans (Nat.le_trans (Nat.le_trans (Nat.le_trans (Nat.le_refl _) E3.1) (Nat.le_of_eq W17.size.symm)) (Nat.le_of_eq W32.size.symm)) (Nat.le_of_eq W47.size.symm)) (Nat.le_of_eq W62.size.symm)) (Nat.le_of_eq gq67.symm)))).wr W84 (Or.inr (Nat.le_trans (Nat.le_trans (Nat.le_trans (Nat.le_trans (Nat.le_trans (Nat.le_trans (Nat.le_refl _) E3.1) (Nat.le_of_eq W17.size.symm)) (Nat.le_of_eq W32.size.symm)) (Nat.le_of_eq W47.size.symm)) (Nat.le_of_eq W62.size.symm)) (Nat.le_of_eq gq67.symm)))).ext Em).trans K89 all0).wr W517 (Or.inr (Nat.le_trans (Nat.le_trans (Nat.le_trans (Nat.le_trans (Nat.le_trans (Nat.le_trans (Nat.le_trans (Nat.le_trans (Nat.le_trans (Nat.le_trans (Nat.le_trans (Nat.le_refl _) E3.1) (Nat.le_of_eq W17.size.symm)) (Nat.le_of_eq W32.size.symm)) (Nat.le_of_eq W47.size.symm)) (Nat.le_of_eq W62.size.symm)) E67.1) (Nat.le_of_eq W72.size.symm)) (Nat.le_of_eq W78.size.symm)) (Nat.le_of_eq W84.size.symm)) Em.1) gl89_0))).wr W521 (Or.inr (Nat.le_trans (Nat.le_trans (Nat.le_trans (Nat.le_trans (Nat.le_trans (Nat.le_trans (Nat.le_trans (Nat.le_trans (Nat.le_trans (Nat.le_trans (Nat.le_refl _) E3.1) (Nat.le_of_eq W17.size.symm)) (Nat.le_of_eq W32.size.symm)) (Nat.le_of_eq W47.size.symm)) (Nat.le_of_eq W62.size.symm)) E67.1) (Nat.le_of_eq W72.size.symm)) (Nat.le_of_eq W78.size.symm)) (Nat.le_of_eq W84.size.symm)) (Nat.le_of_eq gm.symm)))).wr W562 (Or.inl (List.mem_of_getElem? (i := 0) rfl))).wr W567 (Or.inl (List.mem_of_getElem? (i := 0) rfl))).wr W572 (Or.inl (List.mem_of_getElem? (i := 0) rfl))).wr W577 (Or.inl (List.mem_of_getElem? (i := 0) rfl))), (Nat.le_trans (Nat.le_trans (Nat.le_trans (Nat.le_trans (Nat.le_trans (Nat.le_trans (Nat.le_refl _) E3.1) (Nat.le_of_eq W17.size.symm)) (Nat.le_of_eq W32.size.symm)) (Nat.le_of_eq W47.size.symm)) (Nat.le_of_eq W62.size.symm)) (Nat.le_of_eq gq67.symm)), (Nat.le_trans (Nat.le_trans (Nat.le_trans (Nat.le_trans (Nat.le_trans (Nat.le_trans (Nat.le_trans (Nat.le_trans (Nat.le_trans (Nat.le_trans (Nat.le_refl _) E3.1) (Nat.le_of_eq W17.size.symm)) (Nat.le_of_eq W32.size.symm)) (Nat.le_of_eq W47.size.symm)) (Nat.le_of_eq W62.size.symm)) E67.1) (Nat.le_of_eq W72.size.symm)) (Nat.le_of_eq W78.size.symm)) (Nat.le_of_eq W84.size.symm)) (Nat.le_of_eq gm.symm)), (Nat.ne_of_lt lt_ad67_am), (F579.wr W577), ((F571.other W572 (Or.inr (slot_ne (a0 := a0) (C := "com/example/sieve_for_links/sieveforlinks/VirtualLinks") (Or.inr (hw _ (List.mem_of_getElem? (i := 30) rfl))) (Or.inr (hw _ (List.mem_of_getElem? (i := 32) rfl))) (by decide) (t := (.array .double)) (t' := (.array .int)) (by decide) (by decide)))).other W577 (Or.inr (slot_ne (a0 := a0) (C := "com/example/sieve_for_links/sieveforlinks/VirtualLinks") (Or.inr (hw _ (List.mem_of_getElem? (i := 30) rfl))) (Or.inr (hw _ (List.mem_of_getElem? (i := 34) rfl))) (by decide) (t := (.array .double)) (t' := (.array .int)) (by decide) (by decide)))), (F576.other W577 (Or.inr (slot_ne (a0 := a0) (C := "com/example/sieve_for_links/sieveforlinks/VirtualLinks") (Or.inr (hw _ (List.mem_of_getElem? (i := 32) rfl))) (Or.inr (hw _ (List.mem_of_getElem? (i := 34) rfl))) (by decide) (t := (.array .int)) (t' := (.array .int)) (by decide) (by decide)))), F581, ((((VE1.other W562 (Ne.symm (Nat.ne_of_lt lt_o_ad67))).other W567 (Ne.symm (Nat.ne_of_lt lt_o_ad67))).other W572 (Ne.symm (Nat.ne_of_lt lt_o_ad67))).other W577 (Ne.symm (Nat.ne_of_lt lt_o_ad67))), ((((VE2.other W562 (Ne.symm (Nat.ne_of_lt lt_o_am))).other W567 (Ne.symm (Nat.ne_of_lt lt_o_am))).other W572 (Ne.symm (Nat.ne_of_lt lt_o_am))).other W577 (Ne.symm (Nat.ne_of_lt lt_o_am)))⟩)
      ·
        refine OwnW.ifcY (pc' := 243) d2_223 ((if0 _ _).trans (flt hc223_2).2.2.2) (by decide) (by decide) ?_
        refine OwnW.iinc (pc' := 246) (L' := #[.val (.ref o), .val (.ref q0), .val (.ref q1), .val (.int (3 : Int32)), .val (.ref ad3), .val (.ref ad67), .val (.ref am), .val (.ref ad89_0), .val (.int (3 : Int32))]) (d := (1 : Int32)) d2_243 rfl rfl rfl rfl ?_
        refine OwnW.goto (pc' := 212) d2_246 (by decide) (by decide) ?_
        refine OwnW.iload (pc' := 214) d2_212 rfl rfl ?_
        refine OwnW.aloadN (pc' := 215) d2_214 rfl (rfl) rfl ?_
        obtain ⟨cl582, Ar582, qk582, Sz582, Mn582, Hv582, Gf582⟩ := id F91
        refine OwnW.alen (pc' := 216) (x := (4 : Int32)) d2_215 Ar582 (len_of Sz582 Mn582) rfl ?_
        refine OwnW.icmpN (pc' := 219) d2_216 (tlt (by decide)).2.1 rfl ?_
        refine OwnW.aloadN (pc' := 220) d2_219 rfl (rfl) rfl ?_
        refine OwnW.iload (pc' := 222) d2_220 rfl rfl ?_
        obtain ⟨cl583, Ar583, qk583, Sz583, Mn583, Hv583, Gf583⟩ := id F91
        refine OwnW.iaload (pc' := 223) (v := (.int g3)) d2_222 Ar583 (inb_of Sz583 ⟨by decide, by decide⟩) (Hv583.at (inb_of Sz583 ⟨by decide, by decide⟩) rfl) rfl ?_
        by_cases hc223_3 : (0 : Int32) < g3
        ·
          refine OwnW.ifcN (pc' := 226) d2_223 ((if0 _ _).trans (tlt hc223_3).2.2.2) rfl ?_
          refine OwnW.aload (pc' := 228) d2_226 rfl (rfl) rfl ?_
          refine OwnW.aload (pc' := 230) d2_228 rfl (rfl) rfl ?_
          refine OwnW.aloadN (pc' := 231) d2_230 rfl (rfl) rfl ?_
          refine OwnW.iload (pc' := 233) d2_231 rfl rfl ?_
          obtain ⟨cl584, Ar584, qk584, Sz584, Mn584, Hv584, Gf584⟩ := id F91
          refine OwnW.iaload (pc' := 234) (v := (.int g3)) d2_233 Ar584 (inb_of Sz584 ⟨by decide, by decide⟩) (Hv584.at (inb_of Sz584 ⟨by decide, by decide⟩) rfl) rfl ?_
          refine OwnW.dup2 (pc' := 235) d2_234 rfl rfl rfl ?_
          obtain ⟨C585, hC585⟩ : ∃ z : List Int32, z = [(C85.getD 0 0), (C85.getD 1 0), (C85.getD 2 0), (C85.getD 3 0)] := ⟨_, rfl⟩
          have VC585 : Arv Z h89 ad89_0 kc89_0 .int (4 : Int32) (C585.map Value.int) (.int (0 : Int32)) := by rw [hC585]; exact Fc89_0
          have lC585 : C585.length = 4 := by rw [hC585]; rfl
          obtain ⟨cl586, Ar586, qk586, Sz586, Mn586, Hv586, Gf586⟩ := id VC585
          refine OwnW.iaload (pc' := 236) (v := .int (C585.getD g3.toNatClampNeg 0)) d2_235 Ar586 (inb_of Sz586 (own_bd hg3)) (Hv586.at (inb_of Sz586 (own_bd hg3)) (own_gd C585 g3.toNatClampNeg)) rfl ?_
          show GoB2 l Z n0 (Q2 Z o q0 q1 kg ks g0 g1 g2 g3 s0 s1 s2 s3 h0) h89 4 17 236 #[.val (.ref o), .val (.ref q0), .val (.ref q1), .val (.int (3 : Int32)), .val (.ref ad3), .val (.ref ad67), .val (.ref am), .val (.ref ad89_0), .val (.int (3 : Int32))] [(.int (C585.getD g3.toNatClampNeg 0)), (.int g3), (.ref ad89_0), (.ref am)]
          refine OwnW.dupX2 (pc' := 237) d2_236 rfl ?_
          refine OwnW.iconst (pc' := 238) (v := (1 : Int32)) d2_237 rfl rfl ?_
          refine OwnW.iadd (pc' := 239) d2_238 rfl ?_
          obtain ⟨cl587, Ar587, qk587, Sz587, Mn587, Hv587, Gf587⟩ := id VC585
          have bb587 := (own_bd hg3)
          refine OwnW.stI (pc' := 240) d2_239 Ar587 (inb_of Sz587 bb587) ge_ad89_0 rfl ?_
          intro h587 W587
          have sz589 : n0 ≤ h587.size := (by rw [W587.size]; exact sz90)
          obtain ⟨C588, hC588⟩ : ∃ z : List Int32, z = (C585.set g3.toNatClampNeg ((C585.getD g3.toNatClampNeg 0) + (1 : Int32))) := ⟨_, rfl⟩
          have VC588 : Arv Z h587 ad89_0 kc89_0 .int (4 : Int32) (C588.map Value.int) (.int (0 : Int32)) := by rw [hC588, List.map_set]; exact Arv.set Ar587 qk587 Sz587 Mn587 Hv587 Gf587 rfl W587 g3.toNatClampNeg rfl (own_ln (z := (4 : Int32)) lC585 bb587 (by decide))
          have lC588 : C588.length = 4 := by rw [hC588, List.length_set]; exact lC585
          show GoB2 l Z n0 (Q2 Z o q0 q1 kg ks g0 g1 g2 g3 s0 s1 s2 s3 h0) h587 4 17 240 #[.val (.ref o), .val (.ref q0), .val (.ref q1), .val (.int (3 : Int32)), .val (.ref ad3), .val (.ref ad67), .val (.ref am), .val (.ref ad89_0), .val (.int (3 : Int32))] [(.int (C585.getD g3.toNatClampNeg 0)), (.ref am)]
          refine OwnW.iload (pc' := 242) d2_240 rfl rfl ?_
          have F590 := ((VC0.keep K89 nin0).other W587 (Nat.ne_of_lt lt_am_ad89_0))
          obtain ⟨cl591, Ar591, qk591, Sz591, Mn591, Hv591, Gf591⟩ := id F590
          have bb591 := (own_mb14 hg0 hg1 hg2 hg3 hC15 hC18 hC33 hC48 hC63 hC68 hC73 hC79 hC85 hC0 hC585 hC588 htt hc223 hc223_1 hc223_2 hc223_3)
          refine OwnW.stI (pc' := 243) d2_242 Ar591 (inb_of Sz591 bb591) ge_am rfl ?_
          intro h591 W591
          have sz593 : n0 ≤ h591.size := (by rw [W591.size]; exact sz589)
          obtain ⟨C592, hC592⟩ : ∃ z : List Int32, z = (C0.set (C585.getD g3.toNatClampNeg 0).toNatClampNeg (3 : Int32)) := ⟨_, rfl⟩
          have VC592 : Arv Z h591 am km .int tt (C592.map Value.int) (.int (0 : Int32)) := by rw [hC592, List.map_set]; exact Arv.set Ar591 qk591 Sz591 Mn591 Hv591 Gf591 rfl W591 (C585.getD g3.toNatClampNeg 0).toNatClampNeg rfl (own_ln (z := tt) lC0 bb591 rfl)
          have lC592 : C592.length = tt.toNatClampNeg := by rw [hC592, List.length_set]; exact lC0
          show GoB2 l Z n0 (Q2 Z o q0 q1 kg ks g0 g1 g2 g3 s0 s1 s2 s3 h0) h591 4 17 243 #[.val (.ref o), .val (.ref q0), .val (.ref q1), .val (.int (3 : Int32)), .val (.ref ad3), .val (.ref ad67), .val (.ref am), .val (.ref ad89_0), .val (.int (3 : Int32))] []
          refine OwnW.iinc (pc' := 246) (L' := #[.val (.ref o), .val (.ref q0), .val (.ref q1), .val (.int (3 : Int32)), .val (.ref ad3), .val (.ref ad67), .val (.ref am), .val (.ref ad89_0), .val (.int (4 : Int32))]) (d := (1 : Int32)) d2_243 rfl rfl rfl rfl ?_
          refine OwnW.goto (pc' := 212) d2_246 (by decide) (by decide) ?_
          refine OwnW.iload (pc' := 214) d2_212 rfl rfl ?_
          refine OwnW.aloadN (pc' := 215) d2_214 rfl (rfl) rfl ?_
          have F594 := ((F91.other W587 (Nat.ne_of_lt lt_q0_ad89_0)).other W591 (Nat.ne_of_lt lt_q0_am))
          obtain ⟨cl595, Ar595, qk595, Sz595, Mn595, Hv595, Gf595⟩ := id F594
          refine OwnW.alen (pc' := 216) (x := (4 : Int32)) d2_215 Ar595 (len_of Sz595 Mn595) rfl ?_
          refine OwnW.icmpY (pc' := 249) d2_216 (flt (by decide)).2.1 (by decide) (by decide) ?_
          have he := own_end14 hg0 hg1 hg2 hg3 hC15 hC18 hC33 hC48 hC63 hC68 hC73 hC79 hC85 hC0 hC585 hC588 hC592 htt hc223 hc223_1 hc223_2 hc223_3
          have F596 := (((F88.keep K89 nin0).other W587 (Nat.ne_of_lt lt_ad67_ad89_0)).other W591 (Nat.ne_of_lt lt_ad67_am))
          have VE1 : Arv Z h591 ad67 kc67 .int (5 : Int32) ((own_SL g0 g1 g2 g3).map Value.int) (.int (0 : Int32)) := by rw [← he.1]; exact F596
          have VE2 : Arv Z h591 am km .int (own_T g0 g1 g2 g3) ((own_ML g0 g1 g2 g3).map Value.int) (.int (0 : Int32)) := by rw [← he.2.1, ← ht2.2.2]; exact VC592
          refine OwnW.aloadN (pc' := 250) d2_249 rfl (rfl) rfl ?_
          refine OwnW.aloadN (pc' := 251) d2_250 rfl (rfl) rfl ?_
          have F598 := (((((((((((((F_groups.ext E3).other W17 (Or.inl (Nat.ne_of_lt lt_o_ad3))).other W32 (Or.inl (Nat.ne_of_lt lt_o_ad3))).other W47 (Or.inl (Nat.ne_of_lt lt_o_ad3))).other W62 (Or.inl (Nat.ne_of_lt lt_o_ad3))).ext E67).other W72 (Or.inl (Nat.ne_of_lt lt_o_ad67))).other W78 (Or.inl (Nat.ne_of_lt lt_o_ad67))).other W84 (Or.inl (Nat.ne_of_lt lt_o_ad67))).ext Em).keep K89 nin0).other W587 (Or.inl (Nat.ne_of_lt lt_o_ad89_0))).other W591 (Or.inl (Nat.ne_of_lt lt_o_am)))
          have F599 := (((((((((((((E_o.ext E3).wr W17).wr W32).wr W47).wr W62).ext E67).wr W72).wr W78).wr W84).ext Em).keep K89).wr W587).wr W591)
          refine OwnW.putF (a0 := a0) (pc' := 254) d2_251 (host := "") (Or.inl (hw _ (List.mem_of_getElem? (i := 27) rfl))) Via.refl F598 F599 (Or.inr ⟨(hw _ (List.mem_of_getElem? (i := 28) rfl)), rfl, rfl⟩) (hw _ (List.mem_of_getElem? (i := 7) rfl)) (ty := (.array .int)) (by decide) rfl rfl g_o rfl ?_
          intro h597 W597
          have sz600 : n0 ≤ h597.size := (by rw [W597.size]; exact sz593)
          have F601 := F598.same W597
          refine OwnW.aloadN (pc' := 255) d2_254 rfl (rfl) rfl ?_
          refine OwnW.aloadN (pc' := 256) d2_255 rfl (rfl) rfl ?_
          have F603 := ((((((((((((((F_shares.ext E3).other W17 (Or.inl (Nat.ne_of_lt lt_o_ad3))).other W32 (Or.inl (Nat.ne_of_lt lt_o_ad3))).other W47 (Or.inl (Nat.ne_of_lt lt_o_ad3))).other W62 (Or.inl (Nat.ne_of_lt lt_o_ad3))).ext E67).other W72 (Or.inl (Nat.ne_of_lt lt_o_ad67))).other W78 (Or.inl (Nat.ne_of_lt lt_o_ad67))).other W84 (Or.inl (Nat.ne_of_lt lt_o_ad67))).ext Em).keep K89 nin0).other W587 (Or.inl (Nat.ne_of_lt lt_o_ad89_0))).other W591 (Or.inl (Nat.ne_of_lt lt_o_am))).other W597 (Or.inr (slot_ne (a0 := a0) (C := "com/example/sieve_for_links/sieveforlinks/VirtualLinks") (Or.inr (hw _ (List.mem_of_getElem? (i := 30) rfl))) (Or.inr (hw _ (List.mem_of_getElem? (i := 28) rfl))) (by decide) (t := (.array .double)) (t' := (.array .int)) (by decide) (by decide))))
          have F604 := (F599.wr W597)
          refine OwnW.putF (a0 := a0) (pc' := 259) d2_256 (host := "") (Or.inl (hw _ (List.mem_of_getElem? (i := 29) rfl))) Via.refl F603 F604 (Or.inr ⟨(hw _ (List.mem_of_getElem? (i := 30) rfl)), rfl, rfl⟩) (hw _ (List.mem_of_getElem? (i := 7) rfl)) (ty := (.array .double)) (by decide) rfl rfl g_o rfl ?_
          intro h602 W602
          have sz605 : n0 ≤ h602.size := (by rw [W602.size]; exact sz600)
          have F606 := F603.same W602
          refine OwnW.aloadN (pc' := 260) d2_259 rfl (rfl) rfl ?_
          refine OwnW.aload (pc' := 262) d2_260 rfl (rfl) rfl ?_
          have F608 := (((((((((((((((F_members.ext E3).other W17 (Or.inl (Nat.ne_of_lt lt_o_ad3))).other W32 (Or.inl (Nat.ne_of_lt lt_o_ad3))).other W47 (Or.inl (Nat.ne_of_lt lt_o_ad3))).other W62 (Or.inl (Nat.ne_of_lt lt_o_ad3))).ext E67).other W72 (Or.inl (Nat.ne_of_lt lt_o_ad67))).other W78 (Or.inl (Nat.ne_of_lt lt_o_ad67))).other W84 (Or.inl (Nat.ne_of_lt lt_o_ad67))).ext Em).keep K89 nin0).other W587 (Or.inl (Nat.ne_of_lt lt_o_ad89_0))).other W591 (Or.inl (Nat.ne_of_lt lt_o_am))).other W597 (Or.inr (slot_ne (a0 := a0) (C := "com/example/sieve_for_links/sieveforlinks/VirtualLinks") (Or.inr (hw _ (List.mem_of_getElem? (i := 32) rfl))) (Or.inr (hw _ (List.mem_of_getElem? (i := 28) rfl))) (by decide) (t := (.array .int)) (t' := (.array .int)) (by decide) (by decide)))).other W602 (Or.inr (slot_ne (a0 := a0) (C := "com/example/sieve_for_links/sieveforlinks/VirtualLinks") (Or.inr (hw _ (List.mem_of_getElem? (i := 32) rfl))) (Or.inr (hw _ (List.mem_of_getElem? (i := 30) rfl))) (by decide) (t := (.array .int)) (t' := (.array .double)) (by decide) (by decide))))
          have F609 := (F604.wr W602)
          refine OwnW.putF (a0 := a0) (pc' := 265) d2_262 (host := "") (Or.inl (hw _ (List.mem_of_getElem? (i := 31) rfl))) Via.refl F608 F609 (Or.inr ⟨(hw _ (List.mem_of_getElem? (i := 32) rfl)), rfl, rfl⟩) (hw _ (List.mem_of_getElem? (i := 7) rfl)) (ty := (.array .int)) (by decide) rfl rfl g_o rfl ?_
          intro h607 W607
          have sz610 : n0 ≤ h607.size := (by rw [W607.size]; exact sz605)
          have F611 := F608.same W607
          refine OwnW.aloadN (pc' := 266) d2_265 rfl (rfl) rfl ?_
          refine OwnW.aload (pc' := 268) d2_266 rfl (rfl) rfl ?_
          have F613 := ((((((((((((((((F_memberStarts.ext E3).other W17 (Or.inl (Nat.ne_of_lt lt_o_ad3))).other W32 (Or.inl (Nat.ne_of_lt lt_o_ad3))).other W47 (Or.inl (Nat.ne_of_lt lt_o_ad3))).other W62 (Or.inl (Nat.ne_of_lt lt_o_ad3))).ext E67).other W72 (Or.inl (Nat.ne_of_lt lt_o_ad67))).other W78 (Or.inl (Nat.ne_of_lt lt_o_ad67))).other W84 (Or.inl (Nat.ne_of_lt lt_o_ad67))).ext Em).keep K89 nin0).other W587 (Or.inl (Nat.ne_of_lt lt_o_ad89_0))).other W591 (Or.inl (Nat.ne_of_lt lt_o_am))).other W597 (Or.inr (slot_ne (a0 := a0) (C := "com/example/sieve_for_links/sieveforlinks/VirtualLinks") (Or.inr (hw _ (List.mem_of_getElem? (i := 34) rfl))) (Or.inr (hw _ (List.mem_of_getElem? (i := 28) rfl))) (by decide) (t := (.array .int)) (t' := (.array .int)) (by decide) (by decide)))).other W602 (Or.inr (slot_ne (a0 := a0) (C := "com/example/sieve_for_links/sieveforlinks/VirtualLinks") (Or.inr (hw _ (List.mem_of_getElem? (i := 34) rfl))) (Or.inr (hw _ (List.mem_of_getElem? (i := 30) rfl))) (by decide) (t := (.array .int)) (t' := (.array .double)) (by decide) (by decide)))).other W607 (Or.inr (slot_ne (a0 := a0) (C := "com/example/sieve_for_links/sieveforlinks/VirtualLinks") (Or.inr (hw _ (List.mem_of_getElem? (i := 34) rfl))) (Or.inr (hw _ (List.mem_of_getElem? (i := 32) rfl))) (by decide) (t := (.array .int)) (t' := (.array .int)) (by decide) (by decide))))
          have F614 := (F609.wr W607)
          refine OwnW.putF (a0 := a0) (pc' := 271) d2_268 (host := "") (Or.inl (hw _ (List.mem_of_getElem? (i := 33) rfl))) Via.refl F613 F614 (Or.inr ⟨(hw _ (List.mem_of_getElem? (i := 34) rfl)), rfl, rfl⟩) (hw _ (List.mem_of_getElem? (i := 7) rfl)) (ty := (.array .int)) (by decide) rfl rfl g_o rfl ?_
          intro h612 W612
          have sz615 : n0 ≤ h612.size := (by rw [W612.size]; exact sz610)
          have F616 := F613.same W612
          exact OwnW.ret0 d2_271 rfl (by decide) (by decide) (⟨ad67, am, kc67, km, rfl, ((((((((((((((((((Keep.refl h0 [o]).ext E3).wr W17 (Or.inr (Nat.le_trans (Nat.le_refl _) (Nat.le_of_eq gq3.symm)))).wr W32 (Or.inr (Nat.le_trans (Nat.le_refl _) (Nat.le_of_eq gq3.symm)))).wr W47 (Or.inr (Nat.le_trans (Nat.le_refl _) (Nat.le_of_eq gq3.symm)))).wr W62 (Or.inr (Nat.le_trans (Nat.le_refl _) (Nat.le_of_eq gq3.symm)))).ext E67).wr W72 (Or.inr (Nat.le_trans (Nat.le_trans (Nat.le_trans (Nat.le_trans (Nat.le_trans (Nat.le_trans (Nat.le_refl _) E3.1) (Nat.le_of_eq W17.size.symm)) (Nat.le_of_eq W32.size.symm)) (Nat.le_of_eq W47.size.symm)) (Nat.le_of_eq W62.size.symm)) (Nat.le_of_eq gq67.symm)))).wr W78 (Or.inr (Nat.le_trans (Nat.le_trans (Nat.le_trans (Nat.le_trans (Nat.le_trans (Nat.le_trans (Nat.le_refl _) E3.1) (Nat.le_of_eq W17.size.symm)) (Nat.le_of_eq W32.size.symm)) (Nat.le_of_eq W47.size.symm)) (Nat.le_of_eq W62.size.symm)) (Nat.le_of_eq gq67.symm)))).wr W84 (Or.inr (Nat.le_trans (Nat.le_trans (Nat.le_trans (Nat.le_trans (Nat.le_trans (Nat.le_trans (Nat.le_refl _) E3.1) (Nat.le_of_eq W17.size.symm)) (Nat.le_of_eq W32.size.symm)) (Nat.le_of_eq W47.size.symm)) (Nat.le_of_eq W62.size.symm)) (Nat.le_of_eq gq67.symm)))).ext Em).trans K89 all0).wr W587 (Or.inr (Nat.le_trans (Nat.le_trans (Nat.le_trans (Nat.le_trans (Nat.le_trans (Nat.le_trans (Nat.le_trans (Nat.le_trans (Nat.le_trans (Nat.le_trans (Nat.le_trans (Nat.le_refl _) E3.1) (Nat.le_of_eq W17.size.symm)) (Nat.le_of_eq W32.size.symm)) (Nat.le_of_eq W47.size.symm)) (Nat.le_of_eq W62.size.symm)) E67.1) (Nat.le_of_eq W72.size.symm)) (Nat.le_of_eq W78.size.symm)) (Nat.le_of_eq W84.size.symm)) Em.1) gl89_0))).wr W591 (Or.inr (Nat.le_trans (Nat.le_trans (Nat.le_trans (Nat.le_trans (Nat.le_trans (Nat.le_trans (Nat.le_trans (Nat.le_trans (Nat.le_trans (Nat.le_trans (Nat.le_refl _) E3.1) (Nat.le_of_eq W17.size.symm)) (Nat.le_of_eq W32.size.symm)) (Nat.le_of_eq W47.size.symm)) (Nat.le_of_eq W62.size.symm)) E67.1) (Nat.le_of_eq W72.size.symm)) (Nat.le_of_eq W78.size.symm)) (Nat.le_of_eq W84.size.symm)) (Nat.le_of_eq gm.symm)))).wr W597 (Or.inl (List.mem_of_getElem? (i := 0) rfl))).wr W602 (Or.inl (List.mem_of_getElem? (i := 0) rfl))).wr W607 (Or.inl (List.mem_of_getElem? (i := 0) rfl))).wr W612 (Or.inl (List.mem_of_getElem? (i := 0) rfl))), (Nat.le_trans (Nat.le_trans (Nat.le_trans (Nat.le_trans (Nat.le_trans (Nat.le_trans (Nat.le_refl _) E3.1) (Nat.le_of_eq W17.size.symm)) (Nat.le_of_eq W32.size.symm)) (Nat.le_of_eq W47.size.symm)) (Nat.le_of_eq W62.size.symm)) (Nat.le_of_eq gq67.symm)), (Nat.le_trans (Nat.le_trans (Nat.le_trans (Nat.le_trans (Nat.le_trans (Nat.le_trans (Nat.le_trans (Nat.le_trans (Nat.le_trans (Nat.le_trans (Nat.le_refl _) E3.1) (Nat.le_of_eq W17.size.symm)) (Nat.le_of_eq W32.size.symm)) (Nat.le_of_eq W47.size.symm)) (Nat.le_of_eq W62.size.symm)) E67.1) (Nat.le_of_eq W72.size.symm)) (Nat.le_of_eq W78.size.symm)) (Nat.le_of_eq W84.size.symm)) (Nat.le_of_eq gm.symm)), (Nat.ne_of_lt lt_ad67_am), (F614.wr W612), ((F606.other W607 (Or.inr (slot_ne (a0 := a0) (C := "com/example/sieve_for_links/sieveforlinks/VirtualLinks") (Or.inr (hw _ (List.mem_of_getElem? (i := 30) rfl))) (Or.inr (hw _ (List.mem_of_getElem? (i := 32) rfl))) (by decide) (t := (.array .double)) (t' := (.array .int)) (by decide) (by decide)))).other W612 (Or.inr (slot_ne (a0 := a0) (C := "com/example/sieve_for_links/sieveforlinks/VirtualLinks") (Or.inr (hw _ (List.mem_of_getElem? (i := 30) rfl))) (Or.inr (hw _ (List.mem_of_getElem? (i := 34) rfl))) (by decide) (t := (.array .double)) (t' := (.array .int)) (by decide) (by decide)))), (F611.other W612 (Or.inr (slot_ne (a0 := a0) (C := "com/example/sieve_for_links/sieveforlinks/VirtualLinks") (Or.inr (hw _ (List.mem_of_getElem? (i := 32) rfl))) (Or.inr (hw _ (List.mem_of_getElem? (i := 34) rfl))) (by decide) (t := (.array .int)) (t' := (.array .int)) (by decide) (by decide)))), F616, ((((VE1.other W597 (Ne.symm (Nat.ne_of_lt lt_o_ad67))).other W602 (Ne.symm (Nat.ne_of_lt lt_o_ad67))).other W607 (Ne.symm (Nat.ne_of_lt lt_o_ad67))).other W612 (Ne.symm (Nat.ne_of_lt lt_o_ad67))), ((((VE2.other W597 (Ne.symm (Nat.ne_of_lt lt_o_am))).other W602 (Ne.symm (Nat.ne_of_lt lt_o_am))).other W607 (Ne.symm (Nat.ne_of_lt lt_o_am))).other W612 (Ne.symm (Nat.ne_of_lt lt_o_am)))⟩)
        ·
          refine OwnW.ifcY (pc' := 243) d2_223 ((if0 _ _).trans (flt hc223_3).2.2.2) (by decide) (by decide) ?_
          refine OwnW.iinc (pc' := 246) (L' := #[.val (.ref o), .val (.ref q0), .val (.ref q1), .val (.int (3 : Int32)), .val (.ref ad3), .val (.ref ad67), .val (.ref am), .val (.ref ad89_0), .val (.int (4 : Int32))]) (d := (1 : Int32)) d2_243 rfl rfl rfl rfl ?_
          refine OwnW.goto (pc' := 212) d2_246 (by decide) (by decide) ?_
          refine OwnW.iload (pc' := 214) d2_212 rfl rfl ?_
          refine OwnW.aloadN (pc' := 215) d2_214 rfl (rfl) rfl ?_
          obtain ⟨cl617, Ar617, qk617, Sz617, Mn617, Hv617, Gf617⟩ := id F91
          refine OwnW.alen (pc' := 216) (x := (4 : Int32)) d2_215 Ar617 (len_of Sz617 Mn617) rfl ?_
          refine OwnW.icmpY (pc' := 249) d2_216 (flt (by decide)).2.1 (by decide) (by decide) ?_
          have he := own_end15 hg0 hg1 hg2 hg3 hC15 hC18 hC33 hC48 hC63 hC68 hC73 hC79 hC85 hC0 htt hc223 hc223_1 hc223_2 hc223_3
          have F618 := (F88.keep K89 nin0)
          have VE1 : Arv Z h89 ad67 kc67 .int (5 : Int32) ((own_SL g0 g1 g2 g3).map Value.int) (.int (0 : Int32)) := by rw [← he.1]; exact F618
          have F619 := (VC0.keep K89 nin0)
          have VE2 : Arv Z h89 am km .int (own_T g0 g1 g2 g3) ((own_ML g0 g1 g2 g3).map Value.int) (.int (0 : Int32)) := by rw [← he.2.1, ← ht2.2.2]; exact F619
          refine OwnW.aloadN (pc' := 250) d2_249 rfl (rfl) rfl ?_
          refine OwnW.aloadN (pc' := 251) d2_250 rfl (rfl) rfl ?_
          have F621 := (((((((((((F_groups.ext E3).other W17 (Or.inl (Nat.ne_of_lt lt_o_ad3))).other W32 (Or.inl (Nat.ne_of_lt lt_o_ad3))).other W47 (Or.inl (Nat.ne_of_lt lt_o_ad3))).other W62 (Or.inl (Nat.ne_of_lt lt_o_ad3))).ext E67).other W72 (Or.inl (Nat.ne_of_lt lt_o_ad67))).other W78 (Or.inl (Nat.ne_of_lt lt_o_ad67))).other W84 (Or.inl (Nat.ne_of_lt lt_o_ad67))).ext Em).keep K89 nin0)
          have F622 := (((((((((((E_o.ext E3).wr W17).wr W32).wr W47).wr W62).ext E67).wr W72).wr W78).wr W84).ext Em).keep K89)
          refine OwnW.putF (a0 := a0) (pc' := 254) d2_251 (host := "") (Or.inl (hw _ (List.mem_of_getElem? (i := 27) rfl))) Via.refl F621 F622 (Or.inr ⟨(hw _ (List.mem_of_getElem? (i := 28) rfl)), rfl, rfl⟩) (hw _ (List.mem_of_getElem? (i := 7) rfl)) (ty := (.array .int)) (by decide) rfl rfl g_o rfl ?_
          intro h620 W620
          have sz623 : n0 ≤ h620.size := (by rw [W620.size]; exact sz90)
          have F624 := F621.same W620
          refine OwnW.aloadN (pc' := 255) d2_254 rfl (rfl) rfl ?_
          refine OwnW.aloadN (pc' := 256) d2_255 rfl (rfl) rfl ?_
          have F626 := ((((((((((((F_shares.ext E3).other W17 (Or.inl (Nat.ne_of_lt lt_o_ad3))).other W32 (Or.inl (Nat.ne_of_lt lt_o_ad3))).other W47 (Or.inl (Nat.ne_of_lt lt_o_ad3))).other W62 (Or.inl (Nat.ne_of_lt lt_o_ad3))).ext E67).other W72 (Or.inl (Nat.ne_of_lt lt_o_ad67))).other W78 (Or.inl (Nat.ne_of_lt lt_o_ad67))).other W84 (Or.inl (Nat.ne_of_lt lt_o_ad67))).ext Em).keep K89 nin0).other W620 (Or.inr (slot_ne (a0 := a0) (C := "com/example/sieve_for_links/sieveforlinks/VirtualLinks") (Or.inr (hw _ (List.mem_of_getElem? (i := 30) rfl))) (Or.inr (hw _ (List.mem_of_getElem? (i := 28) rfl))) (by decide) (t := (.array .double)) (t' := (.array .int)) (by decide) (by decide))))
          have F627 := (F622.wr W620)
          refine OwnW.putF (a0 := a0) (pc' := 259) d2_256 (host := "") (Or.inl (hw _ (List.mem_of_getElem? (i := 29) rfl))) Via.refl F626 F627 (Or.inr ⟨(hw _ (List.mem_of_getElem? (i := 30) rfl)), rfl, rfl⟩) (hw _ (List.mem_of_getElem? (i := 7) rfl)) (ty := (.array .double)) (by decide) rfl rfl g_o rfl ?_
          intro h625 W625
          have sz628 : n0 ≤ h625.size := (by rw [W625.size]; exact sz623)
          have F629 := F626.same W625
          refine OwnW.aloadN (pc' := 260) d2_259 rfl (rfl) rfl ?_
          refine OwnW.aload (pc' := 262) d2_260 rfl (rfl) rfl ?_
          have F631 := (((((((((((((F_members.ext E3).other W17 (Or.inl (Nat.ne_of_lt lt_o_ad3))).other W32 (Or.inl (Nat.ne_of_lt lt_o_ad3))).other W47 (Or.inl (Nat.ne_of_lt lt_o_ad3))).other W62 (Or.inl (Nat.ne_of_lt lt_o_ad3))).ext E67).other W72 (Or.inl (Nat.ne_of_lt lt_o_ad67))).other W78 (Or.inl (Nat.ne_of_lt lt_o_ad67))).other W84 (Or.inl (Nat.ne_of_lt lt_o_ad67))).ext Em).keep K89 nin0).other W620 (Or.inr (slot_ne (a0 := a0) (C := "com/example/sieve_for_links/sieveforlinks/VirtualLinks") (Or.inr (hw _ (List.mem_of_getElem? (i := 32) rfl))) (Or.inr (hw _ (List.mem_of_getElem? (i := 28) rfl))) (by decide) (t := (.array .int)) (t' := (.array .int)) (by decide) (by decide)))).other W625 (Or.inr (slot_ne (a0 := a0) (C := "com/example/sieve_for_links/sieveforlinks/VirtualLinks") (Or.inr (hw _ (List.mem_of_getElem? (i := 32) rfl))) (Or.inr (hw _ (List.mem_of_getElem? (i := 30) rfl))) (by decide) (t := (.array .int)) (t' := (.array .double)) (by decide) (by decide))))
          have F632 := (F627.wr W625)
          refine OwnW.putF (a0 := a0) (pc' := 265) d2_262 (host := "") (Or.inl (hw _ (List.mem_of_getElem? (i := 31) rfl))) Via.refl F631 F632 (Or.inr ⟨(hw _ (List.mem_of_getElem? (i := 32) rfl)), rfl, rfl⟩) (hw _ (List.mem_of_getElem? (i := 7) rfl)) (ty := (.array .int)) (by decide) rfl rfl g_o rfl ?_
          intro h630 W630
          have sz633 : n0 ≤ h630.size := (by rw [W630.size]; exact sz628)
          have F634 := F631.same W630
          refine OwnW.aloadN (pc' := 266) d2_265 rfl (rfl) rfl ?_
          refine OwnW.aload (pc' := 268) d2_266 rfl (rfl) rfl ?_
          have F636 := ((((((((((((((F_memberStarts.ext E3).other W17 (Or.inl (Nat.ne_of_lt lt_o_ad3))).other W32 (Or.inl (Nat.ne_of_lt lt_o_ad3))).other W47 (Or.inl (Nat.ne_of_lt lt_o_ad3))).other W62 (Or.inl (Nat.ne_of_lt lt_o_ad3))).ext E67).other W72 (Or.inl (Nat.ne_of_lt lt_o_ad67))).other W78 (Or.inl (Nat.ne_of_lt lt_o_ad67))).other W84 (Or.inl (Nat.ne_of_lt lt_o_ad67))).ext Em).keep K89 nin0).other W620 (Or.inr (slot_ne (a0 := a0) (C := "com/example/sieve_for_links/sieveforlinks/VirtualLinks") (Or.inr (hw _ (List.mem_of_getElem? (i := 34) rfl))) (Or.inr (hw _ (List.mem_of_getElem? (i := 28) rfl))) (by decide) (t := (.array .int)) (t' := (.array .int)) (by decide) (by decide)))).other W625 (Or.inr (slot_ne (a0 := a0) (C := "com/example/sieve_for_links/sieveforlinks/VirtualLinks") (Or.inr (hw _ (List.mem_of_getElem? (i := 34) rfl))) (Or.inr (hw _ (List.mem_of_getElem? (i := 30) rfl))) (by decide) (t := (.array .int)) (t' := (.array .double)) (by decide) (by decide)))).other W630 (Or.inr (slot_ne (a0 := a0) (C := "com/example/sieve_for_links/sieveforlinks/VirtualLinks") (Or.inr (hw _ (List.mem_of_getElem? (i := 34) rfl))) (Or.inr (hw _ (List.mem_of_getElem? (i := 32) rfl))) (by decide) (t := (.array .int)) (t' := (.array .int)) (by decide) (by decide))))
          have F637 := (F632.wr W630)
          refine OwnW.putF (a0 := a0) (pc' := 271) d2_268 (host := "") (Or.inl (hw _ (List.mem_of_getElem? (i := 33) rfl))) Via.refl F636 F637 (Or.inr ⟨(hw _ (List.mem_of_getElem? (i := 34) rfl)), rfl, rfl⟩) (hw _ (List.mem_of_getElem? (i := 7) rfl)) (ty := (.array .int)) (by decide) rfl rfl g_o rfl ?_
          intro h635 W635
          have sz638 : n0 ≤ h635.size := (by rw [W635.size]; exact sz633)
          have F639 := F636.same W635
          exact OwnW.ret0 d2_271 rfl (by decide) (by decide) (⟨ad67, am, kc67, km, rfl, ((((((((((((((((Keep.refl h0 [o]).ext E3).wr W17 (Or.inr (Nat.le_trans (Nat.le_refl _) (Nat.le_of_eq gq3.symm)))).wr W32 (Or.inr (Nat.le_trans (Nat.le_refl _) (Nat.le_of_eq gq3.symm)))).wr W47 (Or.inr (Nat.le_trans (Nat.le_refl _) (Nat.le_of_eq gq3.symm)))).wr W62 (Or.inr (Nat.le_trans (Nat.le_refl _) (Nat.le_of_eq gq3.symm)))).ext E67).wr W72 (Or.inr (Nat.le_trans (Nat.le_trans (Nat.le_trans (Nat.le_trans (Nat.le_trans (Nat.le_trans (Nat.le_refl _) E3.1) (Nat.le_of_eq W17.size.symm)) (Nat.le_of_eq W32.size.symm)) (Nat.le_of_eq W47.size.symm)) (Nat.le_of_eq W62.size.symm)) (Nat.le_of_eq gq67.symm)))).wr W78 (Or.inr (Nat.le_trans (Nat.le_trans (Nat.le_trans (Nat.le_trans (Nat.le_trans (Nat.le_trans (Nat.le_refl _) E3.1) (Nat.le_of_eq W17.size.symm)) (Nat.le_of_eq W32.size.symm)) (Nat.le_of_eq W47.size.symm)) (Nat.le_of_eq W62.size.symm)) (Nat.le_of_eq gq67.symm)))).wr W84 (Or.inr (Nat.le_trans (Nat.le_trans (Nat.le_trans (Nat.le_trans (Nat.le_trans (Nat.le_trans (Nat.le_refl _) E3.1) (Nat.le_of_eq W17.size.symm)) (Nat.le_of_eq W32.size.symm)) (Nat.le_of_eq W47.size.symm)) (Nat.le_of_eq W62.size.symm)) (Nat.le_of_eq gq67.symm)))).ext Em).trans K89 all0).wr W620 (Or.inl (List.mem_of_getElem? (i := 0) rfl))).wr W625 (Or.inl (List.mem_of_getElem? (i := 0) rfl))).wr W630 (Or.inl (List.mem_of_getElem? (i := 0) rfl))).wr W635 (Or.inl (List.mem_of_getElem? (i := 0) rfl))), (Nat.le_trans (Nat.le_trans (Nat.le_trans (Nat.le_trans (Nat.le_trans (Nat.le_trans (Nat.le_refl _) E3.1) (Nat.le_of_eq W17.size.symm)) (Nat.le_of_eq W32.size.symm)) (Nat.le_of_eq W47.size.symm)) (Nat.le_of_eq W62.size.symm)) (Nat.le_of_eq gq67.symm)), (Nat.le_trans (Nat.le_trans (Nat.le_trans (Nat.le_trans (Nat.le_trans (Nat.le_trans (Nat.le_trans (Nat.le_trans (Nat.le_trans (Nat.le_trans (Nat.le_refl _) E3.1) (Nat.le_of_eq W17.size.symm)) (Nat.le_of_eq W32.size.symm)) (Nat.le_of_eq W47.size.symm)) (Nat.le_of_eq W62.size.symm)) E67.1) (Nat.le_of_eq W72.size.symm)) (Nat.le_of_eq W78.size.symm)) (Nat.le_of_eq W84.size.symm)) (Nat.le_of_eq gm.symm)), (Nat.ne_of_lt lt_ad67_am), (F637.wr W635), ((F629.other W630 (Or.inr (slot_ne (a0 := a0) (C := "com/example/sieve_for_links/sieveforlinks/VirtualLinks") (Or.inr (hw _ (List.mem_of_getElem? (i := 30) rfl))) (Or.inr (hw _ (List.mem_of_getElem? (i := 32) rfl))) (by decide) (t := (.array .double)) (t' := (.array .int)) (by decide) (by decide)))).other W635 (Or.inr (slot_ne (a0 := a0) (C := "com/example/sieve_for_links/sieveforlinks/VirtualLinks") (Or.inr (hw _ (List.mem_of_getElem? (i := 30) rfl))) (Or.inr (hw _ (List.mem_of_getElem? (i := 34) rfl))) (by decide) (t := (.array .double)) (t' := (.array .int)) (by decide) (by decide)))), (F634.other W635 (Or.inr (slot_ne (a0 := a0) (C := "com/example/sieve_for_links/sieveforlinks/VirtualLinks") (Or.inr (hw _ (List.mem_of_getElem? (i := 32) rfl))) (Or.inr (hw _ (List.mem_of_getElem? (i := 34) rfl))) (by decide) (t := (.array .int)) (t' := (.array .int)) (by decide) (by decide)))), F639, ((((VE1.other W620 (Ne.symm (Nat.ne_of_lt lt_o_ad67))).other W625 (Ne.symm (Nat.ne_of_lt lt_o_ad67))).other W630 (Ne.symm (Nat.ne_of_lt lt_o_ad67))).other W635 (Ne.symm (Nat.ne_of_lt lt_o_ad67))), ((((VE2.other W620 (Ne.symm (Nat.ne_of_lt lt_o_am))).other W625 (Ne.symm (Nat.ne_of_lt lt_o_am))).other W630 (Ne.symm (Nat.ne_of_lt lt_o_am))).other W635 (Ne.symm (Nat.ne_of_lt lt_o_am)))⟩)
theorem d8_0 : decode method_4_code 0 = .ok (.iload_n 0, 1) := by decide +kernel
theorem d8_1 : decode method_4_code 1 = .ok (.iload_n 1, 1) := by decide +kernel
theorem d8_2 : decode method_4_code 2 = .ok (.if_icmp .ne 12, 3) := by decide +kernel
theorem d8_5 : decode method_4_code 5 = .ok (.dload 5, 2) := by decide +kernel
theorem d8_7 : decode method_4_code 7 = .ok (.dload_n 2, 1) := by decide +kernel
theorem d8_8 : decode method_4_code 8 = .ok (.iload 4, 2) := by decide +kernel
theorem d8_10 : decode method_4_code 10 = .ok (.i2d, 1) := by decide +kernel
theorem d8_11 : decode method_4_code 11 = .ok (.dmul, 1) := by decide +kernel
theorem d8_12 : decode method_4_code 12 = .ok (.dadd, 1) := by decide +kernel
theorem d8_13 : decode method_4_code 13 = .ok (.dreturn, 1) := by decide +kernel
theorem d8_14 : decode method_4_code 14 = .ok (.dload 5, 2) := by decide +kernel
theorem d8_16 : decode method_4_code 16 = .ok (.dreturn, 1) := by decide +kernel
def f8 (q0 : Int32) (q1 : Int32) (q2 : UInt64) (q3 : Int32) (q4 : UInt64) : UInt64 := (if q0 = q1 then (FP.dadd q4 (FP.dmul q2 (FP.i2d q3))) else q4)
abbrev GoB8 (l : Launch) (Z : State) (n0 : Nat) (Q : Option Value → Heap → Prop) := Go l Z ({ frames := 0, cells := 0, slots := 0, locals := 0 } : Room) (⟨"com/example/sieve_for_links/sieveforlinks/VirtualLinksSpreadPinLaw", "part", "(IIDID)D"⟩ : MethodName) method_4_code 7 (some .double) n0 Q
theorem ef8 (m : MethodId) (q0 : Int32) (q1 : Int32) (q2 : UInt64) (q3 : Int32) (q4 : UInt64) : entryFrame m #[(.int q0), (.int q1), (.double q2), (.int q3), (.double q4)] 7 = mkF m 0 #[.val (.int q0), .val (.int q1), .val (.double q2), .second, .val (.int q3), .val (.double q4), .second] [] := by first | (simp [entryFrame, mkF, argsToLocals, Value.category]; done) | rfl
set_option maxRecDepth 65536 in
set_option maxHeartbeats 40000000 in
theorem rm8 (l : Launch) (Z : State) (a0 : Array Value) (hw : ∀ d ∈ tables_1, d.before a0 Z = true) (q0 : Int32) (q1 : Int32) (q2 : UInt64) (q3 : Int32) (q4 : UInt64) (h0 : Heap) (n0 : Nat) (hm : Mag64 1024 q2) (ha : NoNaN64 q4) :
    Con l Z ({ frames := 0, cells := 0, slots := 0, locals := 0 } : Room) (⟨"com/example/sieve_for_links/sieveforlinks/VirtualLinksSpreadPinLaw", "part", "(IIDID)D"⟩ : MethodName) method_4_code 7 (some .double) n0 #[(.int q0), (.int q1), (.double q2), (.int q3), (.double q4)] h0 (OwnW.Ret (some (.double (f8 q0 q1 q2 q3 q4))) h0) := by
  refine OwnW.Con.of (by first | decide +kernel | exact plainFor_of_name (by simp [plainName, overriddenIn])) (fun m => ef8 m q0 q1 q2 q3 q4) ?_
  show GoB8 l Z n0 (OwnW.Ret (some (.double (f8 q0 q1 q2 q3 q4))) h0) h0 0 0 0 #[.val (.int q0), .val (.int q1), .val (.double q2), .second, .val (.int q3), .val (.double q4), .second] []
  refine OwnW.iloadN (pc' := 1) d8_0 rfl rfl ?_
  refine OwnW.iloadN (pc' := 2) d8_1 rfl rfl ?_
  by_cases hc2 : q0 = q1
  ·
    refine OwnW.icmpN (pc' := 5) d8_2 (teq hc2).2 rfl ?_
    refine OwnW.dload (pc' := 7) d8_5 rfl rfl ?_
    refine OwnW.dloadN (pc' := 8) d8_7 rfl rfl ?_
    refine OwnW.iload (pc' := 10) d8_8 rfl rfl ?_
    refine OwnW.i2d (pc' := 11) d8_10 rfl rfl ?_
    refine OwnW.dmul (pc' := 12) d8_11 (dmul_out (hm.fin (by decide)) ((i2d_mag q3).fin (by decide))) rfl rfl ?_
    refine OwnW.dadd (pc' := 13) d8_12 (dadd_out ha ((dmul_mag hm (i2d_mag q3) (by decide) (by decide)).fin (by decide))) rfl rfl ?_
    exact OwnW.retD d8_13 rfl (by decide) (by decide) (⟨by first | (simp only [f8, if_pos hc2]; done) | (simp only [f8, if_pos hc2]; rfl), rfl⟩)
  ·
    refine OwnW.icmpY (pc' := 14) d8_2 (feq hc2).2 (by decide) (by decide) ?_
    refine OwnW.dload (pc' := 16) d8_14 rfl rfl ?_
    exact OwnW.retD d8_16 rfl (by decide) (by decide) (⟨by first | (simp only [f8, if_neg hc2]; done) | (simp only [f8, if_neg hc2]; rfl), rfl⟩)
theorem own_pn {g t : Int32} {s a : UInt64} {c : Int32} (hm : Mag64 1024 s) (ha : NoNaN64 a) : NoNaN64 (f8 g t s c a) := by
  unfold f8
  split
  · exact dadd_out ha ((dmul_mag hm (i2d_mag c) (by decide) (by decide)).fin (by decide))
  · exact ha

theorem d7_0 : decode method_5_code 0 = .ok (.dconst 0, 1) := by decide +kernel
theorem d7_1 : decode method_5_code 1 = .ok (.dstore 17, 2) := by decide +kernel
theorem d7_3 : decode method_5_code 3 = .ok (.iload_n 1, 1) := by decide +kernel
theorem d7_4 : decode method_5_code 4 = .ok (.iload_n 0, 1) := by decide +kernel
theorem d7_5 : decode method_5_code 5 = .ok (.dload 5, 2) := by decide +kernel
theorem d7_7 : decode method_5_code 7 = .ok (.iload 13, 2) := by decide +kernel
theorem d7_9 : decode method_5_code 9 = .ok (.dload 17, 2) := by decide +kernel
theorem d7_11 : decode method_5_code 11 = .ok (.invokestatic 36, 3) := by decide +kernel
theorem d7_14 : decode method_5_code 14 = .ok (.dstore 17, 2) := by decide +kernel
theorem d7_16 : decode method_5_code 16 = .ok (.iload_n 2, 1) := by decide +kernel
theorem d7_17 : decode method_5_code 17 = .ok (.iload_n 0, 1) := by decide +kernel
theorem d7_18 : decode method_5_code 18 = .ok (.dload 7, 2) := by decide +kernel
theorem d7_20 : decode method_5_code 20 = .ok (.iload 14, 2) := by decide +kernel
theorem d7_22 : decode method_5_code 22 = .ok (.dload 17, 2) := by decide +kernel
theorem d7_24 : decode method_5_code 24 = .ok (.invokestatic 36, 3) := by decide +kernel
theorem d7_27 : decode method_5_code 27 = .ok (.dstore 17, 2) := by decide +kernel
theorem d7_29 : decode method_5_code 29 = .ok (.iload_n 3, 1) := by decide +kernel
theorem d7_30 : decode method_5_code 30 = .ok (.iload_n 0, 1) := by decide +kernel
theorem d7_31 : decode method_5_code 31 = .ok (.dload 9, 2) := by decide +kernel
theorem d7_33 : decode method_5_code 33 = .ok (.iload 15, 2) := by decide +kernel
theorem d7_35 : decode method_5_code 35 = .ok (.dload 17, 2) := by decide +kernel
theorem d7_37 : decode method_5_code 37 = .ok (.invokestatic 36, 3) := by decide +kernel
theorem d7_40 : decode method_5_code 40 = .ok (.dstore 17, 2) := by decide +kernel
theorem d7_42 : decode method_5_code 42 = .ok (.iload 4, 2) := by decide +kernel
theorem d7_44 : decode method_5_code 44 = .ok (.iload_n 0, 1) := by decide +kernel
theorem d7_45 : decode method_5_code 45 = .ok (.dload 11, 2) := by decide +kernel
theorem d7_47 : decode method_5_code 47 = .ok (.iload 16, 2) := by decide +kernel
theorem d7_49 : decode method_5_code 49 = .ok (.dload 17, 2) := by decide +kernel
theorem d7_51 : decode method_5_code 51 = .ok (.invokestatic 36, 3) := by decide +kernel
theorem d7_54 : decode method_5_code 54 = .ok (.dstore 17, 2) := by decide +kernel
theorem d7_56 : decode method_5_code 56 = .ok (.dload 17, 2) := by decide +kernel
theorem d7_58 : decode method_5_code 58 = .ok (.dreturn, 1) := by decide +kernel
def f7 (q0 : Int32) (q1 : Int32) (q2 : Int32) (q3 : Int32) (q4 : Int32) (q5 : UInt64) (q6 : UInt64) (q7 : UInt64) (q8 : UInt64) (q9 : Int32) (q10 : Int32) (q11 : Int32) (q12 : Int32) : UInt64 := (f8 q4 q0 q8 q12 (f8 q3 q0 q7 q11 (f8 q2 q0 q6 q10 (f8 q1 q0 q5 q9 (0 : UInt64)))))
abbrev GoB7 (l : Launch) (Z : State) (n0 : Nat) (Q : Option Value → Heap → Prop) := Go l Z ({ frames := 1, cells := 0, slots := 0, locals := 18 } : Room) (⟨"com/example/sieve_for_links/sieveforlinks/VirtualLinksSpreadPinLaw", "expect", "(IIIIIDDDDIIII)D"⟩ : MethodName) method_5_code 19 (some .double) n0 Q
theorem ef7 (m : MethodId) (q0 : Int32) (q1 : Int32) (q2 : Int32) (q3 : Int32) (q4 : Int32) (q5 : UInt64) (q6 : UInt64) (q7 : UInt64) (q8 : UInt64) (q9 : Int32) (q10 : Int32) (q11 : Int32) (q12 : Int32) : entryFrame m #[(.int q0), (.int q1), (.int q2), (.int q3), (.int q4), (.double q5), (.double q6), (.double q7), (.double q8), (.int q9), (.int q10), (.int q11), (.int q12)] 19 = mkF m 0 #[.val (.int q0), .val (.int q1), .val (.int q2), .val (.int q3), .val (.int q4), .val (.double q5), .second, .val (.double q6), .second, .val (.double q7), .second, .val (.double q8), .second, .val (.int q9), .val (.int q10), .val (.int q11), .val (.int q12), .unset, .unset] [] := by first | (simp [entryFrame, mkF, argsToLocals, Value.category]; done) | rfl
set_option maxRecDepth 65536 in
set_option maxHeartbeats 40000000 in
theorem rm7 (l : Launch) (Z : State) (a0 : Array Value) (hw : ∀ d ∈ tables_1, d.before a0 Z = true) (q0 : Int32) (q1 : Int32) (q2 : Int32) (q3 : Int32) (q4 : Int32) (q5 : UInt64) (q6 : UInt64) (q7 : UInt64) (q8 : UInt64) (q9 : Int32) (q10 : Int32) (q11 : Int32) (q12 : Int32) (h0 : Heap) (n0 : Nat) (hm0 : Mag64 1024 q5) (hm1 : Mag64 1024 q6) (hm2 : Mag64 1024 q7) (hm3 : Mag64 1024 q8) :
    Con l Z ({ frames := 1, cells := 0, slots := 0, locals := 18 } : Room) (⟨"com/example/sieve_for_links/sieveforlinks/VirtualLinksSpreadPinLaw", "expect", "(IIIIIDDDDIIII)D"⟩ : MethodName) method_5_code 19 (some .double) n0 #[(.int q0), (.int q1), (.int q2), (.int q3), (.int q4), (.double q5), (.double q6), (.double q7), (.double q8), (.int q9), (.int q10), (.int q11), (.int q12)] h0 (OwnW.Ret (some (.double (f7 q0 q1 q2 q3 q4 q5 q6 q7 q8 q9 q10 q11 q12))) h0) := by
  refine OwnW.Con.of (by first | decide +kernel | exact plainFor_of_name (by simp [plainName, overriddenIn])) (fun m => ef7 m q0 q1 q2 q3 q4 q5 q6 q7 q8 q9 q10 q11 q12) ?_
  show GoB7 l Z n0 (OwnW.Ret (some (.double (f7 q0 q1 q2 q3 q4 q5 q6 q7 q8 q9 q10 q11 q12))) h0) h0 0 0 0 #[.val (.int q0), .val (.int q1), .val (.int q2), .val (.int q3), .val (.int q4), .val (.double q5), .second, .val (.double q6), .second, .val (.double q7), .second, .val (.double q8), .second, .val (.int q9), .val (.int q10), .val (.int q11), .val (.int q12), .unset, .unset] []
  refine OwnW.dconst0 (pc' := 1) (v := (0 : UInt64)) d7_0 (by decide +kernel) rfl ?_
  refine OwnW.dstore (pc' := 3) (L' := #[.val (.int q0), .val (.int q1), .val (.int q2), .val (.int q3), .val (.int q4), .val (.double q5), .second, .val (.double q6), .second, .val (.double q7), .second, .val (.double q8), .second, .val (.int q9), .val (.int q10), .val (.int q11), .val (.int q12), .val (.double (0 : UInt64)), .second]) d7_1 rfl rfl ?_
  refine OwnW.iloadN (pc' := 4) d7_3 rfl rfl ?_
  refine OwnW.iloadN (pc' := 5) d7_4 rfl rfl ?_
  refine OwnW.dload (pc' := 7) d7_5 rfl rfl ?_
  refine OwnW.iload (pc' := 9) d7_7 rfl rfl ?_
  refine OwnW.dload (pc' := 11) d7_9 rfl rfl ?_
  refine OwnW.callS0 (a0 := a0) (pc' := 14) (W := 0) (k' := 0) (n' := 0) (argsL := [(.int q1), (.int q0), (.double q5), (.int q9), (.double (0 : UInt64))]) (rest := []) (St' := [(.double (f8 q1 q0 q5 q9 (0 : UInt64)))]) d7_11 (hw _ (List.mem_of_getElem? (i := 44) rfl)) (hw _ (List.mem_of_getElem? (i := 45) rfl)) (hw _ (List.mem_of_getElem? (i := 2) rfl)) (hw _ (List.mem_of_getElem? (i := 46) rfl)) (by decide) (rm8 l Z a0 hw q1 q0 q5 q9 (0 : UInt64) h0 n0 hm0 own_z) (by decide) (by decide) rfl rfl (by decide) (by decide) rfl pd_28IIDID29D rfl rfl rfl (Nat.le_of_ble_eq_true rfl) rfl rfl ?_
  refine OwnW.dstore (pc' := 16) (L' := #[.val (.int q0), .val (.int q1), .val (.int q2), .val (.int q3), .val (.int q4), .val (.double q5), .second, .val (.double q6), .second, .val (.double q7), .second, .val (.double q8), .second, .val (.int q9), .val (.int q10), .val (.int q11), .val (.int q12), .val (.double (f8 q1 q0 q5 q9 (0 : UInt64))), .second]) d7_14 rfl rfl ?_
  refine OwnW.iloadN (pc' := 17) d7_16 rfl rfl ?_
  refine OwnW.iloadN (pc' := 18) d7_17 rfl rfl ?_
  refine OwnW.dload (pc' := 20) d7_18 rfl rfl ?_
  refine OwnW.iload (pc' := 22) d7_20 rfl rfl ?_
  refine OwnW.dload (pc' := 24) d7_22 rfl rfl ?_
  refine OwnW.callS0 (a0 := a0) (pc' := 27) (W := 0) (k' := 0) (n' := 0) (argsL := [(.int q2), (.int q0), (.double q6), (.int q10), (.double (f8 q1 q0 q5 q9 (0 : UInt64)))]) (rest := []) (St' := [(.double (f8 q2 q0 q6 q10 (f8 q1 q0 q5 q9 (0 : UInt64))))]) d7_24 (hw _ (List.mem_of_getElem? (i := 44) rfl)) (hw _ (List.mem_of_getElem? (i := 45) rfl)) (hw _ (List.mem_of_getElem? (i := 2) rfl)) (hw _ (List.mem_of_getElem? (i := 46) rfl)) (by decide) (rm8 l Z a0 hw q2 q0 q6 q10 (f8 q1 q0 q5 q9 (0 : UInt64)) h0 n0 hm1 (own_pn hm0 own_z)) (by decide) (by decide) rfl rfl (by decide) (by decide) rfl pd_28IIDID29D rfl rfl rfl (Nat.le_of_ble_eq_true rfl) rfl rfl ?_
  refine OwnW.dstore (pc' := 29) (L' := #[.val (.int q0), .val (.int q1), .val (.int q2), .val (.int q3), .val (.int q4), .val (.double q5), .second, .val (.double q6), .second, .val (.double q7), .second, .val (.double q8), .second, .val (.int q9), .val (.int q10), .val (.int q11), .val (.int q12), .val (.double (f8 q2 q0 q6 q10 (f8 q1 q0 q5 q9 (0 : UInt64)))), .second]) d7_27 rfl rfl ?_
  refine OwnW.iloadN (pc' := 30) d7_29 rfl rfl ?_
  refine OwnW.iloadN (pc' := 31) d7_30 rfl rfl ?_
  refine OwnW.dload (pc' := 33) d7_31 rfl rfl ?_
  refine OwnW.iload (pc' := 35) d7_33 rfl rfl ?_
  refine OwnW.dload (pc' := 37) d7_35 rfl rfl ?_
  refine OwnW.callS0 (a0 := a0) (pc' := 40) (W := 0) (k' := 0) (n' := 0) (argsL := [(.int q3), (.int q0), (.double q7), (.int q11), (.double (f8 q2 q0 q6 q10 (f8 q1 q0 q5 q9 (0 : UInt64))))]) (rest := []) (St' := [(.double (f8 q3 q0 q7 q11 (f8 q2 q0 q6 q10 (f8 q1 q0 q5 q9 (0 : UInt64)))))]) d7_37 (hw _ (List.mem_of_getElem? (i := 44) rfl)) (hw _ (List.mem_of_getElem? (i := 45) rfl)) (hw _ (List.mem_of_getElem? (i := 2) rfl)) (hw _ (List.mem_of_getElem? (i := 46) rfl)) (by decide) (rm8 l Z a0 hw q3 q0 q7 q11 (f8 q2 q0 q6 q10 (f8 q1 q0 q5 q9 (0 : UInt64))) h0 n0 hm2 (own_pn hm1 (own_pn hm0 own_z))) (by decide) (by decide) rfl rfl (by decide) (by decide) rfl pd_28IIDID29D rfl rfl rfl (Nat.le_of_ble_eq_true rfl) rfl rfl ?_
  refine OwnW.dstore (pc' := 42) (L' := #[.val (.int q0), .val (.int q1), .val (.int q2), .val (.int q3), .val (.int q4), .val (.double q5), .second, .val (.double q6), .second, .val (.double q7), .second, .val (.double q8), .second, .val (.int q9), .val (.int q10), .val (.int q11), .val (.int q12), .val (.double (f8 q3 q0 q7 q11 (f8 q2 q0 q6 q10 (f8 q1 q0 q5 q9 (0 : UInt64))))), .second]) d7_40 rfl rfl ?_
  refine OwnW.iload (pc' := 44) d7_42 rfl rfl ?_
  refine OwnW.iloadN (pc' := 45) d7_44 rfl rfl ?_
  refine OwnW.dload (pc' := 47) d7_45 rfl rfl ?_
  refine OwnW.iload (pc' := 49) d7_47 rfl rfl ?_
  refine OwnW.dload (pc' := 51) d7_49 rfl rfl ?_
  refine OwnW.callS0 (a0 := a0) (pc' := 54) (W := 0) (k' := 0) (n' := 0) (argsL := [(.int q4), (.int q0), (.double q8), (.int q12), (.double (f8 q3 q0 q7 q11 (f8 q2 q0 q6 q10 (f8 q1 q0 q5 q9 (0 : UInt64)))))]) (rest := []) (St' := [(.double (f8 q4 q0 q8 q12 (f8 q3 q0 q7 q11 (f8 q2 q0 q6 q10 (f8 q1 q0 q5 q9 (0 : UInt64))))))]) d7_51 (hw _ (List.mem_of_getElem? (i := 44) rfl)) (hw _ (List.mem_of_getElem? (i := 45) rfl)) (hw _ (List.mem_of_getElem? (i := 2) rfl)) (hw _ (List.mem_of_getElem? (i := 46) rfl)) (by decide) (rm8 l Z a0 hw q4 q0 q8 q12 (f8 q3 q0 q7 q11 (f8 q2 q0 q6 q10 (f8 q1 q0 q5 q9 (0 : UInt64)))) h0 n0 hm3 (own_pn hm2 (own_pn hm1 (own_pn hm0 own_z)))) (by decide) (by decide) rfl rfl (by decide) (by decide) rfl pd_28IIDID29D rfl rfl rfl (Nat.le_of_ble_eq_true rfl) rfl rfl ?_
  refine OwnW.dstore (pc' := 56) (L' := #[.val (.int q0), .val (.int q1), .val (.int q2), .val (.int q3), .val (.int q4), .val (.double q5), .second, .val (.double q6), .second, .val (.double q7), .second, .val (.double q8), .second, .val (.int q9), .val (.int q10), .val (.int q11), .val (.int q12), .val (.double (f8 q4 q0 q8 q12 (f8 q3 q0 q7 q11 (f8 q2 q0 q6 q10 (f8 q1 q0 q5 q9 (0 : UInt64)))))), .second]) d7_54 rfl rfl ?_
  refine OwnW.dload (pc' := 58) d7_56 rfl rfl ?_
  exact OwnW.retD d7_58 rfl (by decide) (by decide) (⟨by first | (simp only [f7]; done) | (simp only [f7]; rfl), rfl⟩)

theorem own_sh {g x : Int32} {s : UInt64} (h : s = (f1 g x)) : own_S g s := by
  subst h
  unfold f1
  split
  · exact ⟨by decide +kernel, by decide +kernel, fun _ => by decide +kernel, by unfold Mag64; decide +kernel⟩
  · rename_i hg
    obtain ⟨r, e⟩ := own_min x
    rw [e]
    have k1 : ∀ r : Fin 5, ¬ (cmpValue (FP.dcmp (FP.ddiv (FP.i2d (Int32.ofNat r.val)) (4616189618054758400 : UInt64)) (0 : UInt64)) .l) < (0 : Int32) := by decide +kernel
    have k2 : ∀ r : Fin 5, ¬ (0 : Int32) < (cmpValue (FP.dcmp (FP.ddiv (FP.i2d (Int32.ofNat r.val)) (4616189618054758400 : UInt64)) (4607182418800017408 : UInt64)) .g) := by decide +kernel
    have k3 : ∀ r : Fin 5, (FP.ddiv (FP.i2d (Int32.ofNat r.val)) (4616189618054758400 : UInt64)).toNat % 9223372036854775808 < 1024 * 4503599627370496 := by decide +kernel
    exact ⟨k1 r, k2 r, fun q => absurd q hg, k3 r⟩
theorem own_mg {g x : Int32} {s : UInt64} (h : s = (f1 g x)) : Mag64 1024 s := (own_sh h).2.2.2
theorem own_g4 {g z : Int32} (h : g = (z &&& (3 : Int32))) : own_G g := by
  have e := c_mask z 3 2 (by decide) (by decide)
  rw [← h] at e
  have b : g.toInt = 0 ∨ g.toInt = 1 ∨ g.toInt = 2 ∨ g.toInt = 3 := by omega
  simpa [own_G, ← Int32.toInt_inj] using b
theorem own_M {s0 s1 s2 s3 : UInt64} (a : Mag64 1024 s0) (b : Mag64 1024 s1) (c : Mag64 1024 s2) (d : Mag64 1024 s3) : ∀ i, Mag64 1024 ([s0, s1, s2, s3].getD i 0)
  | 0 => a
  | 1 => b
  | 2 => c
  | 3 => d
  | n + 4 => by show Mag64 1024 (0 : UInt64); unfold Mag64; decide +kernel
theorem own_X (a b c d : Int32) : ∀ i, Mag64 1056 ([(FP.i2d a), (FP.i2d b), (FP.i2d c), (FP.i2d d)].getD i 0)
  | 0 => i2d_mag a
  | 1 => i2d_mag b
  | 2 => i2d_mag c
  | 3 => i2d_mag d
  | n + 4 => by show Mag64 1056 (0 : UInt64); unfold Mag64; decide +kernel
theorem own_mem {c : Prop} [Decidable c] {k x : Int32} (h : x ∈ (if c then [k] else [])) : x = k := by
  split at h
  · simpa using h
  · simp at h
theorem own_mi {t x g0 g1 g2 g3 : Int32} (h : x ∈ own_is t g0 g1 g2 g3) : x = 0 ∨ x = 1 ∨ x = 2 ∨ x = 3 := by
  simp only [own_is, List.mem_append] at h
  rcases h with ((h | h) | h) | h
  · exact Or.inl (own_mem h)
  · exact Or.inr (Or.inl (own_mem h))
  · exact Or.inr (Or.inr (Or.inl (own_mem h)))
  · exact Or.inr (Or.inr (Or.inr (own_mem h)))
theorem own_q {g0 g1 g2 g3 : Int32} (_ : own_G g0) (_ : own_G g1) (_ : own_G g2) (_ : own_G g3) (i : Nat) : ¬ ((own_ML g0 g1 g2 g3).getD i 0) < 0 ∧ ((own_ML g0 g1 g2 g3).getD i 0) < (4 : Int32) := by
  have k : (own_ML g0 g1 g2 g3).getD i 0 = 0 ∨ (own_ML g0 g1 g2 g3).getD i 0 = 1 ∨ (own_ML g0 g1 g2 g3).getD i 0 = 2 ∨ (own_ML g0 g1 g2 g3).getD i 0 = 3 := by
    rw [List.getD_eq_getElem?_getD]
    cases e : (own_ML g0 g1 g2 g3)[i]? with
    | none => exact Or.inl rfl
    | some v =>
      have m := List.mem_of_getElem? e
      simp only [own_ML, List.mem_append] at m
      rcases m with (m | m) | m <;> exact own_mi m
  rcases k with k | k | k | k <;> rw [k] <;> decide
theorem own_ge {j z : Int32} (hj : j.toInt + 0 = z.toInt) : ¬ j < z := by rw [Int32.lt_iff_toInt_lt]; omega
theorem own_lt {n : Nat} {j z : Int32} (hj : j.toInt + ((n + 1 : Nat) : Int) = z.toInt) : j < z := by rw [Int32.lt_iff_toInt_lt]; omega
theorem own_j0 {n : Int} {j z : Int32} (h0 : 0 ≤ j.toInt) (hj : j.toInt + n = z.toInt) (hn : 0 < n := by decide) : 0 ≤ (j + (1 : Int32)).toInt := by
  have a := c_iadd j 1
  have r := rng32 (j + 1)
  have r2 := rng32 z
  have o : (1 : Int32).toInt = 1 := by decide
  omega
theorem own_j1 {n m : Int} {j z : Int32} (h0 : 0 ≤ j.toInt) (hj : j.toInt + n = z.toInt) (hn : n = m + 1 ∧ 0 ≤ m := by decide) : (j + (1 : Int32)).toInt + m = z.toInt := by
  have a := c_iadd j 1
  have r := rng32 (j + 1)
  have r2 := rng32 z
  have o : (1 : Int32).toInt = 1 := by decide
  omega
set_option maxHeartbeats 40000000 in
theorem own_lh1 {g0 : Int32} {g1 : Int32} {g2 : Int32} {g3 : Int32} (hg0 : own_G g0) (hg1 : own_G g1) (hg2 : own_G g2) (hg3 : own_G g3) : (own_is (1 : Int32) g0 g1 g2 g3).length ≤ 4 ∧ 0 ≤ ((own_SL g0 g1 g2 g3).getD 1 0).toInt ∧ ((own_SL g0 g1 g2 g3).getD 1 0).toInt + ((own_is (1 : Int32) g0 g1 g2 g3).length : Int) = ((own_SL g0 g1 g2 g3).getD 2 0).toInt := by
  rcases hg0 with rfl | rfl | rfl | rfl <;> rcases hg1 with rfl | rfl | rfl | rfl <;> rcases hg2 with rfl | rfl | rfl | rfl <;> rcases hg3 with rfl | rfl | rfl | rfl <;> decide +kernel
set_option maxHeartbeats 40000000 in
theorem own_hT1 {g0 : Int32} {g1 : Int32} {g2 : Int32} {g3 : Int32} (hg0 : own_G g0) (hg1 : own_G g1) (hg2 : own_G g2) (hg3 : own_G g3) : ((own_SL g0 g1 g2 g3).getD 2 0).toInt ≤ (own_T g0 g1 g2 g3).toInt := by
  rcases hg0 with rfl | rfl | rfl | rfl <;> rcases hg1 with rfl | rfl | rfl | rfl <;> rcases hg2 with rfl | rfl | rfl | rfl <;> rcases hg3 with rfl | rfl | rfl | rfl <;> decide +kernel
theorem own_jT1 {g0 : Int32} {g1 : Int32} {g2 : Int32} {g3 : Int32} {j : Int32} {n : Int} (hg0 : own_G g0) (hg1 : own_G g1) (hg2 : own_G g2) (hg3 : own_G g3) (h0 : 0 ≤ j.toInt) (hj : j.toInt + n = ((own_SL g0 g1 g2 g3).getD 2 0).toInt) (hn : 0 < n := by decide) : ¬ j < 0 ∧ j < (own_T g0 g1 g2 g3) := by
  have t := own_hT1 hg0 hg1 hg2 hg3
  have z : (0 : Int32).toInt = 0 := by decide
  rw [Int32.lt_iff_toInt_lt, Int32.lt_iff_toInt_lt]
  omega
set_option maxHeartbeats 40000000 in
theorem own_eq1 {g0 : Int32} {g1 : Int32} {g2 : Int32} {g3 : Int32} {s0 : UInt64} {s1 : UInt64} {s2 : UInt64} {s3 : UInt64} {p2 p3 p4 p5 : Int32} (hg0 : own_G g0) (hg1 : own_G g1) (hg2 : own_G g2) (hg3 : own_G g3) : (own_fold [s0, s1, s2, s3] [(FP.i2d p2), (FP.i2d p3), (FP.i2d p4), (FP.i2d p5)] (own_ML g0 g1 g2 g3) (own_is (1 : Int32) g0 g1 g2 g3).length ((own_SL g0 g1 g2 g3).getD 1 0) (0 : UInt64)) = (f7 (1 : Int32) g0 g1 g2 g3 s0 s1 s2 s3 p2 p3 p4 p5) := by
  rcases hg0 with rfl | rfl | rfl | rfl <;> rcases hg1 with rfl | rfl | rfl | rfl <;> rcases hg2 with rfl | rfl | rfl | rfl <;> rcases hg3 with rfl | rfl | rfl | rfl <;> rfl
theorem own_en1 {g0 : Int32} {g1 : Int32} {g2 : Int32} {g3 : Int32} {s0 : UInt64} {s1 : UInt64} {s2 : UInt64} {s3 : UInt64} {p2 p3 p4 p5 : Int32} (hg0 : own_G g0) (hg1 : own_G g1) (hg2 : own_G g2) (hg3 : own_G g3) (m0 : Mag64 1024 s0) (m1 : Mag64 1024 s1) (m2 : Mag64 1024 s2) (m3 : Mag64 1024 s3) : NoNaN64 (own_fold [s0, s1, s2, s3] [(FP.i2d p2), (FP.i2d p3), (FP.i2d p4), (FP.i2d p5)] (own_ML g0 g1 g2 g3) (own_is (1 : Int32) g0 g1 g2 g3).length ((own_SL g0 g1 g2 g3).getD 1 0) (0 : UInt64)) := by
  rw [own_eq1 hg0 hg1 hg2 hg3]
  exact own_pn m3 (own_pn m2 (own_pn m1 (own_pn m0 own_z)))
set_option maxHeartbeats 40000000 in
theorem own_lh2 {g0 : Int32} {g1 : Int32} {g2 : Int32} {g3 : Int32} (hg0 : own_G g0) (hg1 : own_G g1) (hg2 : own_G g2) (hg3 : own_G g3) : (own_is (2 : Int32) g0 g1 g2 g3).length ≤ 4 ∧ 0 ≤ ((own_SL g0 g1 g2 g3).getD 2 0).toInt ∧ ((own_SL g0 g1 g2 g3).getD 2 0).toInt + ((own_is (2 : Int32) g0 g1 g2 g3).length : Int) = ((own_SL g0 g1 g2 g3).getD 3 0).toInt := by
  rcases hg0 with rfl | rfl | rfl | rfl <;> rcases hg1 with rfl | rfl | rfl | rfl <;> rcases hg2 with rfl | rfl | rfl | rfl <;> rcases hg3 with rfl | rfl | rfl | rfl <;> decide +kernel
set_option maxHeartbeats 40000000 in
theorem own_hT2 {g0 : Int32} {g1 : Int32} {g2 : Int32} {g3 : Int32} (hg0 : own_G g0) (hg1 : own_G g1) (hg2 : own_G g2) (hg3 : own_G g3) : ((own_SL g0 g1 g2 g3).getD 3 0).toInt ≤ (own_T g0 g1 g2 g3).toInt := by
  rcases hg0 with rfl | rfl | rfl | rfl <;> rcases hg1 with rfl | rfl | rfl | rfl <;> rcases hg2 with rfl | rfl | rfl | rfl <;> rcases hg3 with rfl | rfl | rfl | rfl <;> decide +kernel
theorem own_jT2 {g0 : Int32} {g1 : Int32} {g2 : Int32} {g3 : Int32} {j : Int32} {n : Int} (hg0 : own_G g0) (hg1 : own_G g1) (hg2 : own_G g2) (hg3 : own_G g3) (h0 : 0 ≤ j.toInt) (hj : j.toInt + n = ((own_SL g0 g1 g2 g3).getD 3 0).toInt) (hn : 0 < n := by decide) : ¬ j < 0 ∧ j < (own_T g0 g1 g2 g3) := by
  have t := own_hT2 hg0 hg1 hg2 hg3
  have z : (0 : Int32).toInt = 0 := by decide
  rw [Int32.lt_iff_toInt_lt, Int32.lt_iff_toInt_lt]
  omega
set_option maxHeartbeats 40000000 in
theorem own_eq2 {g0 : Int32} {g1 : Int32} {g2 : Int32} {g3 : Int32} {s0 : UInt64} {s1 : UInt64} {s2 : UInt64} {s3 : UInt64} {p2 p3 p4 p5 : Int32} (hg0 : own_G g0) (hg1 : own_G g1) (hg2 : own_G g2) (hg3 : own_G g3) : (own_fold [s0, s1, s2, s3] [(FP.i2d p2), (FP.i2d p3), (FP.i2d p4), (FP.i2d p5)] (own_ML g0 g1 g2 g3) (own_is (2 : Int32) g0 g1 g2 g3).length ((own_SL g0 g1 g2 g3).getD 2 0) (0 : UInt64)) = (f7 (2 : Int32) g0 g1 g2 g3 s0 s1 s2 s3 p2 p3 p4 p5) := by
  rcases hg0 with rfl | rfl | rfl | rfl <;> rcases hg1 with rfl | rfl | rfl | rfl <;> rcases hg2 with rfl | rfl | rfl | rfl <;> rcases hg3 with rfl | rfl | rfl | rfl <;> rfl
theorem own_en2 {g0 : Int32} {g1 : Int32} {g2 : Int32} {g3 : Int32} {s0 : UInt64} {s1 : UInt64} {s2 : UInt64} {s3 : UInt64} {p2 p3 p4 p5 : Int32} (hg0 : own_G g0) (hg1 : own_G g1) (hg2 : own_G g2) (hg3 : own_G g3) (m0 : Mag64 1024 s0) (m1 : Mag64 1024 s1) (m2 : Mag64 1024 s2) (m3 : Mag64 1024 s3) : NoNaN64 (own_fold [s0, s1, s2, s3] [(FP.i2d p2), (FP.i2d p3), (FP.i2d p4), (FP.i2d p5)] (own_ML g0 g1 g2 g3) (own_is (2 : Int32) g0 g1 g2 g3).length ((own_SL g0 g1 g2 g3).getD 2 0) (0 : UInt64)) := by
  rw [own_eq2 hg0 hg1 hg2 hg3]
  exact own_pn m3 (own_pn m2 (own_pn m1 (own_pn m0 own_z)))
set_option maxHeartbeats 40000000 in
theorem own_lh3 {g0 : Int32} {g1 : Int32} {g2 : Int32} {g3 : Int32} (hg0 : own_G g0) (hg1 : own_G g1) (hg2 : own_G g2) (hg3 : own_G g3) : (own_is (3 : Int32) g0 g1 g2 g3).length ≤ 4 ∧ 0 ≤ ((own_SL g0 g1 g2 g3).getD 3 0).toInt ∧ ((own_SL g0 g1 g2 g3).getD 3 0).toInt + ((own_is (3 : Int32) g0 g1 g2 g3).length : Int) = ((own_SL g0 g1 g2 g3).getD 4 0).toInt := by
  rcases hg0 with rfl | rfl | rfl | rfl <;> rcases hg1 with rfl | rfl | rfl | rfl <;> rcases hg2 with rfl | rfl | rfl | rfl <;> rcases hg3 with rfl | rfl | rfl | rfl <;> decide +kernel
set_option maxHeartbeats 40000000 in
theorem own_hT3 {g0 : Int32} {g1 : Int32} {g2 : Int32} {g3 : Int32} (hg0 : own_G g0) (hg1 : own_G g1) (hg2 : own_G g2) (hg3 : own_G g3) : ((own_SL g0 g1 g2 g3).getD 4 0).toInt ≤ (own_T g0 g1 g2 g3).toInt := by
  rcases hg0 with rfl | rfl | rfl | rfl <;> rcases hg1 with rfl | rfl | rfl | rfl <;> rcases hg2 with rfl | rfl | rfl | rfl <;> rcases hg3 with rfl | rfl | rfl | rfl <;> decide +kernel
theorem own_jT3 {g0 : Int32} {g1 : Int32} {g2 : Int32} {g3 : Int32} {j : Int32} {n : Int} (hg0 : own_G g0) (hg1 : own_G g1) (hg2 : own_G g2) (hg3 : own_G g3) (h0 : 0 ≤ j.toInt) (hj : j.toInt + n = ((own_SL g0 g1 g2 g3).getD 4 0).toInt) (hn : 0 < n := by decide) : ¬ j < 0 ∧ j < (own_T g0 g1 g2 g3) := by
  have t := own_hT3 hg0 hg1 hg2 hg3
  have z : (0 : Int32).toInt = 0 := by decide
  rw [Int32.lt_iff_toInt_lt, Int32.lt_iff_toInt_lt]
  omega
set_option maxHeartbeats 40000000 in
theorem own_eq3 {g0 : Int32} {g1 : Int32} {g2 : Int32} {g3 : Int32} {s0 : UInt64} {s1 : UInt64} {s2 : UInt64} {s3 : UInt64} {p2 p3 p4 p5 : Int32} (hg0 : own_G g0) (hg1 : own_G g1) (hg2 : own_G g2) (hg3 : own_G g3) : (own_fold [s0, s1, s2, s3] [(FP.i2d p2), (FP.i2d p3), (FP.i2d p4), (FP.i2d p5)] (own_ML g0 g1 g2 g3) (own_is (3 : Int32) g0 g1 g2 g3).length ((own_SL g0 g1 g2 g3).getD 3 0) (0 : UInt64)) = (f7 (3 : Int32) g0 g1 g2 g3 s0 s1 s2 s3 p2 p3 p4 p5) := by
  rcases hg0 with rfl | rfl | rfl | rfl <;> rcases hg1 with rfl | rfl | rfl | rfl <;> rcases hg2 with rfl | rfl | rfl | rfl <;> rcases hg3 with rfl | rfl | rfl | rfl <;> rfl
theorem own_en3 {g0 : Int32} {g1 : Int32} {g2 : Int32} {g3 : Int32} {s0 : UInt64} {s1 : UInt64} {s2 : UInt64} {s3 : UInt64} {p2 p3 p4 p5 : Int32} (hg0 : own_G g0) (hg1 : own_G g1) (hg2 : own_G g2) (hg3 : own_G g3) (m0 : Mag64 1024 s0) (m1 : Mag64 1024 s1) (m2 : Mag64 1024 s2) (m3 : Mag64 1024 s3) : NoNaN64 (own_fold [s0, s1, s2, s3] [(FP.i2d p2), (FP.i2d p3), (FP.i2d p4), (FP.i2d p5)] (own_ML g0 g1 g2 g3) (own_is (3 : Int32) g0 g1 g2 g3).length ((own_SL g0 g1 g2 g3).getD 3 0) (0 : UInt64)) := by
  rw [own_eq3 hg0 hg1 hg2 hg3]
  exact own_pn m3 (own_pn m2 (own_pn m1 (own_pn m0 own_z)))

theorem d6_0 : decode prog_33_method_7_code 0 = .ok (.aload_n 2, 1) := by decide +kernel
theorem d6_1 : decode prog_33_method_7_code 1 = .ok (.iconst 0, 1) := by decide +kernel
theorem d6_2 : decode prog_33_method_7_code 2 = .ok (.dconst 0, 1) := by decide +kernel
theorem d6_3 : decode prog_33_method_7_code 3 = .ok (.dastore, 1) := by decide +kernel
theorem d6_4 : decode prog_33_method_7_code 4 = .ok (.iconst 1, 1) := by decide +kernel
theorem d6_5 : decode prog_33_method_7_code 5 = .ok (.istore_n 3, 1) := by decide +kernel
theorem d6_6 : decode prog_33_method_7_code 6 = .ok (.iload_n 3, 1) := by decide +kernel
theorem d6_7 : decode prog_33_method_7_code 7 = .ok (.aload_n 0, 1) := by decide +kernel
theorem d6_8 : decode prog_33_method_7_code 8 = .ok (.getfield 39, 3) := by decide +kernel
theorem d6_11 : decode prog_33_method_7_code 11 = .ok (.arraylength, 1) := by decide +kernel
theorem d6_12 : decode prog_33_method_7_code 12 = .ok (.iconst 1, 1) := by decide +kernel
theorem d6_13 : decode prog_33_method_7_code 13 = .ok (.isub, 1) := by decide +kernel
theorem d6_14 : decode prog_33_method_7_code 14 = .ok (.if_icmp .ge 71, 3) := by decide +kernel
theorem d6_17 : decode prog_33_method_7_code 17 = .ok (.dconst 0, 1) := by decide +kernel
theorem d6_18 : decode prog_33_method_7_code 18 = .ok (.dstore 4, 2) := by decide +kernel
theorem d6_20 : decode prog_33_method_7_code 20 = .ok (.aload_n 0, 1) := by decide +kernel
theorem d6_21 : decode prog_33_method_7_code 21 = .ok (.getfield 39, 3) := by decide +kernel
theorem d6_24 : decode prog_33_method_7_code 24 = .ok (.iload_n 3, 1) := by decide +kernel
theorem d6_25 : decode prog_33_method_7_code 25 = .ok (.iaload, 1) := by decide +kernel
theorem d6_26 : decode prog_33_method_7_code 26 = .ok (.istore 6, 2) := by decide +kernel
theorem d6_28 : decode prog_33_method_7_code 28 = .ok (.iload 6, 2) := by decide +kernel
theorem d6_30 : decode prog_33_method_7_code 30 = .ok (.aload_n 0, 1) := by decide +kernel
theorem d6_31 : decode prog_33_method_7_code 31 = .ok (.getfield 39, 3) := by decide +kernel
theorem d6_34 : decode prog_33_method_7_code 34 = .ok (.iload_n 3, 1) := by decide +kernel
theorem d6_35 : decode prog_33_method_7_code 35 = .ok (.iconst 1, 1) := by decide +kernel
theorem d6_36 : decode prog_33_method_7_code 36 = .ok (.iadd, 1) := by decide +kernel
theorem d6_37 : decode prog_33_method_7_code 37 = .ok (.iaload, 1) := by decide +kernel
theorem d6_38 : decode prog_33_method_7_code 38 = .ok (.if_icmp .ge 36, 3) := by decide +kernel
theorem d6_41 : decode prog_33_method_7_code 41 = .ok (.dload 4, 2) := by decide +kernel
theorem d6_43 : decode prog_33_method_7_code 43 = .ok (.aload_n 0, 1) := by decide +kernel
theorem d6_44 : decode prog_33_method_7_code 44 = .ok (.getfield 32, 3) := by decide +kernel
theorem d6_47 : decode prog_33_method_7_code 47 = .ok (.aload_n 0, 1) := by decide +kernel
theorem d6_48 : decode prog_33_method_7_code 48 = .ok (.getfield 36, 3) := by decide +kernel
theorem d6_51 : decode prog_33_method_7_code 51 = .ok (.iload 6, 2) := by decide +kernel
theorem d6_53 : decode prog_33_method_7_code 53 = .ok (.iaload, 1) := by decide +kernel
theorem d6_54 : decode prog_33_method_7_code 54 = .ok (.daload, 1) := by decide +kernel
theorem d6_55 : decode prog_33_method_7_code 55 = .ok (.aload_n 1, 1) := by decide +kernel
theorem d6_56 : decode prog_33_method_7_code 56 = .ok (.aload_n 0, 1) := by decide +kernel
theorem d6_57 : decode prog_33_method_7_code 57 = .ok (.getfield 36, 3) := by decide +kernel
theorem d6_60 : decode prog_33_method_7_code 60 = .ok (.iload 6, 2) := by decide +kernel
theorem d6_62 : decode prog_33_method_7_code 62 = .ok (.iaload, 1) := by decide +kernel
theorem d6_63 : decode prog_33_method_7_code 63 = .ok (.daload, 1) := by decide +kernel
theorem d6_64 : decode prog_33_method_7_code 64 = .ok (.dmul, 1) := by decide +kernel
theorem d6_65 : decode prog_33_method_7_code 65 = .ok (.dadd, 1) := by decide +kernel
theorem d6_66 : decode prog_33_method_7_code 66 = .ok (.dstore 4, 2) := by decide +kernel
theorem d6_68 : decode prog_33_method_7_code 68 = .ok (.iinc 6 1, 3) := by decide +kernel
theorem d6_71 : decode prog_33_method_7_code 71 = .ok (.goto (-43), 3) := by decide +kernel
theorem d6_74 : decode prog_33_method_7_code 74 = .ok (.aload_n 2, 1) := by decide +kernel
theorem d6_75 : decode prog_33_method_7_code 75 = .ok (.iload_n 3, 1) := by decide +kernel
theorem d6_76 : decode prog_33_method_7_code 76 = .ok (.dload 4, 2) := by decide +kernel
theorem d6_78 : decode prog_33_method_7_code 78 = .ok (.dastore, 1) := by decide +kernel
theorem d6_79 : decode prog_33_method_7_code 79 = .ok (.iinc 3 1, 3) := by decide +kernel
theorem d6_82 : decode prog_33_method_7_code 82 = .ok (.goto (-76), 3) := by decide +kernel
theorem d6_85 : decode prog_33_method_7_code 85 = .ok (.return_, 1) := by decide +kernel
def Q6 (Z : State) (o : Addr) (q0 : Addr) (q1 : Addr) (g0 : Int32) (g1 : Int32) (g2 : Int32) (g3 : Int32) (s0 : UInt64) (s1 : UInt64) (s2 : UInt64) (s3 : UInt64) (x0 : UInt64) (x1 : UInt64) (x2 : UInt64) (x3 : UInt64) (shA : Addr) (mA : Addr) (sA : Addr) (k1 : ClassId) (k2 : ClassId) (ks : ClassId) (kx : ClassId) (ko : ClassId) (h0 : Heap) (v : Option Value) (h : Heap) : Prop := v = none ∧ Keep h0 h [q1] ∧ Arv Z h q1 ko .double (4 : Int32) [(.double (0 : UInt64)), (.double (own_fold [s0, s1, s2, s3] [x0, x1, x2, x3] (own_ML g0 g1 g2 g3) (own_is (1 : Int32) g0 g1 g2 g3).length ((own_SL g0 g1 g2 g3).getD 1 0) (0 : UInt64))), (.double (own_fold [s0, s1, s2, s3] [x0, x1, x2, x3] (own_ML g0 g1 g2 g3) (own_is (2 : Int32) g0 g1 g2 g3).length ((own_SL g0 g1 g2 g3).getD 2 0) (0 : UInt64))), (.double (own_fold [s0, s1, s2, s3] [x0, x1, x2, x3] (own_ML g0 g1 g2 g3) (own_is (3 : Int32) g0 g1 g2 g3).length ((own_SL g0 g1 g2 g3).getD 3 0) (0 : UInt64)))] (.double (0 : UInt64))
abbrev GoB6 (l : Launch) (Z : State) (n0 : Nat) (Q : Option Value → Heap → Prop) := Go l Z ({ frames := 0, cells := 0, slots := 0, locals := 0 } : Room) (⟨"com/example/sieve_for_links/sieveforlinks/VirtualLinks", "spread", "([D[D)V"⟩ : MethodName) prog_33_method_7_code 7 none n0 Q
set_option maxRecDepth 65536 in
set_option maxHeartbeats 400000000 in
theorem inn1_0 (l : Launch) (Z : State) (a0 : Array Value) (hw : ∀ d ∈ tables_1, d.before a0 Z = true) (o : Addr) (q0 : Addr) (q1 : Addr) (g0 : Int32) (g1 : Int32) (g2 : Int32) (g3 : Int32) (s0 : UInt64) (s1 : UInt64) (s2 : UInt64) (s3 : UInt64) (x0 : UInt64) (x1 : UInt64) (x2 : UInt64) (x3 : UInt64) (shA : Addr) (mA : Addr) (sA : Addr) (k1 : ClassId) (k2 : ClassId) (ks : ClassId) (kx : ClassId) (j : Int32) (sm : UInt64) (Q : Option Value → Heap → Prop) (h0 hc : Heap) (n0 : Nat) (Z0 : n0 ≤ hc.size) (XB : Ext h0 hc) (E_o : Exa Z hc o "com/example/sieve_for_links/sieveforlinks/VirtualLinks") (F_shares : Fld Z hc o "com/example/sieve_for_links/sieveforlinks/VirtualLinks" "shares" "[D" (.ref shA)) (F_members : Fld Z hc o "com/example/sieve_for_links/sieveforlinks/VirtualLinks" "members" "[I" (.ref mA)) (F_memberStarts : Fld Z hc o "com/example/sieve_for_links/sieveforlinks/VirtualLinks" "memberStarts" "[I" (.ref sA)) (B_sA : Arv Z hc sA k1 .int (5 : Int32) ((own_SL g0 g1 g2 g3).map Value.int) (.int (0 : Int32))) (B_mA : Arv Z hc mA k2 .int (own_T g0 g1 g2 g3) ((own_ML g0 g1 g2 g3).map Value.int) (.int (0 : Int32))) (A_shA : Arv Z hc shA ks .double (4 : Int32) [(.double s0), (.double s1), (.double s2), (.double s3)] (.double (0 : UInt64))) (A_q0 : Arv Z hc q0 kx .double (4 : Int32) [(.double x0), (.double x1), (.double x2), (.double x3)] (.double (0 : UInt64))) (hg0 : own_G g0) (hg1 : own_G g1) (hg2 : own_G g2) (hg3 : own_G g3) (hM : ∀ i, Mag64 1024 ([s0, s1, s2, s3].getD i 0)) (hX : ∀ i, Mag64 1056 ([x0, x1, x2, x3].getD i 0)) (h0j : 0 ≤ j.toInt) (hj : j.toInt + 0 = ((own_SL g0 g1 g2 g3).getD 2 0).toInt) (hs : NoNaN64 sm) (kt : GoB6 l Z n0 Q hc 0 0 74 #[.val (.ref o), .val (.ref q0), .val (.ref q1), .val (.int (1 : Int32)), .val (.double (own_fold [s0, s1, s2, s3] [x0, x1, x2, x3] (own_ML g0 g1 g2 g3) 0 j sm)), .second, .val (.int (own_jn 0 j))] []) :
    GoB6 l Z n0 Q hc 0 0 28 #[.val (.ref o), .val (.ref q0), .val (.ref q1), .val (.int (1 : Int32)), .val (.double sm), .second, .val (.int j)] [] := by
  refine OwnW.iload (pc' := 30) d6_28 rfl rfl ?_
  refine OwnW.aloadN (pc' := 31) d6_30 rfl (rfl) rfl ?_
  refine OwnW.getF (a0 := a0) (pc' := 34) d6_31 (host := "") (Or.inl (hw _ (List.mem_of_getElem? (i := 33) rfl))) Via.refl F_memberStarts rfl ?_
  refine OwnW.iloadN (pc' := 35) d6_34 rfl rfl ?_
  refine OwnW.iconst (pc' := 36) (v := (1 : Int32)) d6_35 rfl rfl ?_
  refine OwnW.iadd (pc' := 37) d6_36 rfl ?_
  show GoB6 l Z n0 Q hc 0 0 37 #[.val (.ref o), .val (.ref q0), .val (.ref q1), .val (.int (1 : Int32)), .val (.double sm), .second, .val (.int j)] [(.int (2 : Int32)), (.ref sA), (.int j)]
  obtain ⟨cl1, Ar1, qk1, Sz1, Mn1, Hv1, Gf1⟩ := id B_sA
  refine OwnW.iaload (pc' := 38) (v := .int ((own_SL g0 g1 g2 g3).getD 2 0)) d6_37 Ar1 (inb_of Sz1 ⟨by decide, by decide⟩) (Hv1.at (inb_of Sz1 ⟨by decide, by decide⟩) (own_gd (own_SL g0 g1 g2 g3) 2)) rfl ?_
  show GoB6 l Z n0 Q hc 0 0 38 #[.val (.ref o), .val (.ref q0), .val (.ref q1), .val (.int (1 : Int32)), .val (.double sm), .second, .val (.int j)] [(.int ((own_SL g0 g1 g2 g3).getD 2 0)), (.int j)]
  refine OwnW.icmpY (pc' := 74) d6_38 (flt (own_ge hj)).2.1 (by decide) (by decide) ?_
  exact kt
set_option maxRecDepth 65536 in
set_option maxHeartbeats 400000000 in
theorem inn1_1 (l : Launch) (Z : State) (a0 : Array Value) (hw : ∀ d ∈ tables_1, d.before a0 Z = true) (o : Addr) (q0 : Addr) (q1 : Addr) (g0 : Int32) (g1 : Int32) (g2 : Int32) (g3 : Int32) (s0 : UInt64) (s1 : UInt64) (s2 : UInt64) (s3 : UInt64) (x0 : UInt64) (x1 : UInt64) (x2 : UInt64) (x3 : UInt64) (shA : Addr) (mA : Addr) (sA : Addr) (k1 : ClassId) (k2 : ClassId) (ks : ClassId) (kx : ClassId) (j : Int32) (sm : UInt64) (Q : Option Value → Heap → Prop) (h0 hc : Heap) (n0 : Nat) (Z0 : n0 ≤ hc.size) (XB : Ext h0 hc) (E_o : Exa Z hc o "com/example/sieve_for_links/sieveforlinks/VirtualLinks") (F_shares : Fld Z hc o "com/example/sieve_for_links/sieveforlinks/VirtualLinks" "shares" "[D" (.ref shA)) (F_members : Fld Z hc o "com/example/sieve_for_links/sieveforlinks/VirtualLinks" "members" "[I" (.ref mA)) (F_memberStarts : Fld Z hc o "com/example/sieve_for_links/sieveforlinks/VirtualLinks" "memberStarts" "[I" (.ref sA)) (B_sA : Arv Z hc sA k1 .int (5 : Int32) ((own_SL g0 g1 g2 g3).map Value.int) (.int (0 : Int32))) (B_mA : Arv Z hc mA k2 .int (own_T g0 g1 g2 g3) ((own_ML g0 g1 g2 g3).map Value.int) (.int (0 : Int32))) (A_shA : Arv Z hc shA ks .double (4 : Int32) [(.double s0), (.double s1), (.double s2), (.double s3)] (.double (0 : UInt64))) (A_q0 : Arv Z hc q0 kx .double (4 : Int32) [(.double x0), (.double x1), (.double x2), (.double x3)] (.double (0 : UInt64))) (hg0 : own_G g0) (hg1 : own_G g1) (hg2 : own_G g2) (hg3 : own_G g3) (hM : ∀ i, Mag64 1024 ([s0, s1, s2, s3].getD i 0)) (hX : ∀ i, Mag64 1056 ([x0, x1, x2, x3].getD i 0)) (h0j : 0 ≤ j.toInt) (hj : j.toInt + 1 = ((own_SL g0 g1 g2 g3).getD 2 0).toInt) (hs : NoNaN64 sm) (kt : GoB6 l Z n0 Q hc 0 0 74 #[.val (.ref o), .val (.ref q0), .val (.ref q1), .val (.int (1 : Int32)), .val (.double (own_fold [s0, s1, s2, s3] [x0, x1, x2, x3] (own_ML g0 g1 g2 g3) 1 j sm)), .second, .val (.int (own_jn 1 j))] []) :
    GoB6 l Z n0 Q hc 0 0 28 #[.val (.ref o), .val (.ref q0), .val (.ref q1), .val (.int (1 : Int32)), .val (.double sm), .second, .val (.int j)] [] := by
  refine OwnW.iload (pc' := 30) d6_28 rfl rfl ?_
  refine OwnW.aloadN (pc' := 31) d6_30 rfl (rfl) rfl ?_
  refine OwnW.getF (a0 := a0) (pc' := 34) d6_31 (host := "") (Or.inl (hw _ (List.mem_of_getElem? (i := 33) rfl))) Via.refl F_memberStarts rfl ?_
  refine OwnW.iloadN (pc' := 35) d6_34 rfl rfl ?_
  refine OwnW.iconst (pc' := 36) (v := (1 : Int32)) d6_35 rfl rfl ?_
  refine OwnW.iadd (pc' := 37) d6_36 rfl ?_
  show GoB6 l Z n0 Q hc 0 0 37 #[.val (.ref o), .val (.ref q0), .val (.ref q1), .val (.int (1 : Int32)), .val (.double sm), .second, .val (.int j)] [(.int (2 : Int32)), (.ref sA), (.int j)]
  obtain ⟨cl1, Ar1, qk1, Sz1, Mn1, Hv1, Gf1⟩ := id B_sA
  refine OwnW.iaload (pc' := 38) (v := .int ((own_SL g0 g1 g2 g3).getD 2 0)) d6_37 Ar1 (inb_of Sz1 ⟨by decide, by decide⟩) (Hv1.at (inb_of Sz1 ⟨by decide, by decide⟩) (own_gd (own_SL g0 g1 g2 g3) 2)) rfl ?_
  show GoB6 l Z n0 Q hc 0 0 38 #[.val (.ref o), .val (.ref q0), .val (.ref q1), .val (.int (1 : Int32)), .val (.double sm), .second, .val (.int j)] [(.int ((own_SL g0 g1 g2 g3).getD 2 0)), (.int j)]
  refine OwnW.icmpN (pc' := 41) d6_38 (tlt (own_lt hj)).2.1 rfl ?_
  refine OwnW.dload (pc' := 43) d6_41 rfl rfl ?_
  refine OwnW.aloadN (pc' := 44) d6_43 rfl (rfl) rfl ?_
  refine OwnW.getF (a0 := a0) (pc' := 47) d6_44 (host := "") (Or.inl (hw _ (List.mem_of_getElem? (i := 29) rfl))) Via.refl F_shares rfl ?_
  refine OwnW.aloadN (pc' := 48) d6_47 rfl (rfl) rfl ?_
  refine OwnW.getF (a0 := a0) (pc' := 51) d6_48 (host := "") (Or.inl (hw _ (List.mem_of_getElem? (i := 31) rfl))) Via.refl F_members rfl ?_
  refine OwnW.iload (pc' := 53) d6_51 rfl rfl ?_
  obtain ⟨cl2, Ar2, qk2, Sz2, Mn2, Hv2, Gf2⟩ := id B_mA
  refine OwnW.iaload (pc' := 54) (v := .int ((own_ML g0 g1 g2 g3).getD j.toNatClampNeg 0)) d6_53 Ar2 (inb_of Sz2 (own_jT1 hg0 hg1 hg2 hg3 h0j hj)) (Hv2.at (inb_of Sz2 (own_jT1 hg0 hg1 hg2 hg3 h0j hj)) (own_gd (own_ML g0 g1 g2 g3) j.toNatClampNeg)) rfl ?_
  show GoB6 l Z n0 Q hc 0 0 54 #[.val (.ref o), .val (.ref q0), .val (.ref q1), .val (.int (1 : Int32)), .val (.double sm), .second, .val (.int j)] [(.int ((own_ML g0 g1 g2 g3).getD j.toNatClampNeg 0)), (.ref shA), (.double sm)]
  obtain ⟨cl3, Ar3, qk3, Sz3, Mn3, Hv3, Gf3⟩ := id A_shA
  refine OwnW.daload (pc' := 55) (v := .double ([s0, s1, s2, s3].getD ((own_ML g0 g1 g2 g3).getD j.toNatClampNeg 0).toNatClampNeg 0)) d6_54 Ar3 (inb_of Sz3 (own_q hg0 hg1 hg2 hg3 _)) (Hv3.at (inb_of Sz3 (own_q hg0 hg1 hg2 hg3 _)) (own_gdD [s0, s1, s2, s3] ((own_ML g0 g1 g2 g3).getD j.toNatClampNeg 0).toNatClampNeg)) rfl ?_
  show GoB6 l Z n0 Q hc 0 0 55 #[.val (.ref o), .val (.ref q0), .val (.ref q1), .val (.int (1 : Int32)), .val (.double sm), .second, .val (.int j)] [(.double ([s0, s1, s2, s3].getD ((own_ML g0 g1 g2 g3).getD j.toNatClampNeg 0).toNatClampNeg 0)), (.double sm)]
  refine OwnW.aloadN (pc' := 56) d6_55 rfl (rfl) rfl ?_
  refine OwnW.aloadN (pc' := 57) d6_56 rfl (rfl) rfl ?_
  refine OwnW.getF (a0 := a0) (pc' := 60) d6_57 (host := "") (Or.inl (hw _ (List.mem_of_getElem? (i := 31) rfl))) Via.refl F_members rfl ?_
  refine OwnW.iload (pc' := 62) d6_60 rfl rfl ?_
  obtain ⟨cl4, Ar4, qk4, Sz4, Mn4, Hv4, Gf4⟩ := id B_mA
  refine OwnW.iaload (pc' := 63) (v := .int ((own_ML g0 g1 g2 g3).getD j.toNatClampNeg 0)) d6_62 Ar4 (inb_of Sz4 (own_jT1 hg0 hg1 hg2 hg3 h0j hj)) (Hv4.at (inb_of Sz4 (own_jT1 hg0 hg1 hg2 hg3 h0j hj)) (own_gd (own_ML g0 g1 g2 g3) j.toNatClampNeg)) rfl ?_
  show GoB6 l Z n0 Q hc 0 0 63 #[.val (.ref o), .val (.ref q0), .val (.ref q1), .val (.int (1 : Int32)), .val (.double sm), .second, .val (.int j)] [(.int ((own_ML g0 g1 g2 g3).getD j.toNatClampNeg 0)), (.ref q0), (.double ([s0, s1, s2, s3].getD ((own_ML g0 g1 g2 g3).getD j.toNatClampNeg 0).toNatClampNeg 0)), (.double sm)]
  obtain ⟨cl5, Ar5, qk5, Sz5, Mn5, Hv5, Gf5⟩ := id A_q0
  refine OwnW.daload (pc' := 64) (v := .double ([x0, x1, x2, x3].getD ((own_ML g0 g1 g2 g3).getD j.toNatClampNeg 0).toNatClampNeg 0)) d6_63 Ar5 (inb_of Sz5 (own_q hg0 hg1 hg2 hg3 _)) (Hv5.at (inb_of Sz5 (own_q hg0 hg1 hg2 hg3 _)) (own_gdD [x0, x1, x2, x3] ((own_ML g0 g1 g2 g3).getD j.toNatClampNeg 0).toNatClampNeg)) rfl ?_
  show GoB6 l Z n0 Q hc 0 0 64 #[.val (.ref o), .val (.ref q0), .val (.ref q1), .val (.int (1 : Int32)), .val (.double sm), .second, .val (.int j)] [(.double ([x0, x1, x2, x3].getD ((own_ML g0 g1 g2 g3).getD j.toNatClampNeg 0).toNatClampNeg 0)), (.double ([s0, s1, s2, s3].getD ((own_ML g0 g1 g2 g3).getD j.toNatClampNeg 0).toNatClampNeg 0)), (.double sm)]
  refine OwnW.dmul (pc' := 65) d6_64 (dmul_out ((hM _).fin (by decide)) ((hX _).fin (by decide))) rfl rfl ?_
  refine OwnW.dadd (pc' := 66) d6_65 (dadd_out hs ((dmul_mag (hM _) (hX _) (by decide) (by decide)).fin (by decide))) rfl rfl ?_
  refine OwnW.dstore (pc' := 68) (L' := #[.val (.ref o), .val (.ref q0), .val (.ref q1), .val (.int (1 : Int32)), .val (.double (FP.dadd sm (FP.dmul ([s0, s1, s2, s3].getD ((own_ML g0 g1 g2 g3).getD j.toNatClampNeg 0).toNatClampNeg 0) ([x0, x1, x2, x3].getD ((own_ML g0 g1 g2 g3).getD j.toNatClampNeg 0).toNatClampNeg 0)))), .second, .val (.int j)]) d6_66 rfl rfl ?_
  refine OwnW.iinc (pc' := 71) (L' := #[.val (.ref o), .val (.ref q0), .val (.ref q1), .val (.int (1 : Int32)), .val (.double (FP.dadd sm (FP.dmul ([s0, s1, s2, s3].getD ((own_ML g0 g1 g2 g3).getD j.toNatClampNeg 0).toNatClampNeg 0) ([x0, x1, x2, x3].getD ((own_ML g0 g1 g2 g3).getD j.toNatClampNeg 0).toNatClampNeg 0)))), .second, .val (.int (j + (1 : Int32)))]) (d := (1 : Int32)) d6_68 rfl rfl rfl rfl ?_
  refine OwnW.goto (pc' := 28) d6_71 (by decide) (by decide) ?_
  exact inn1_0 l Z a0 hw o q0 q1 g0 g1 g2 g3 s0 s1 s2 s3 x0 x1 x2 x3 shA mA sA k1 k2 ks kx (j + (1 : Int32)) (FP.dadd sm (FP.dmul ([s0, s1, s2, s3].getD ((own_ML g0 g1 g2 g3).getD j.toNatClampNeg 0).toNatClampNeg 0) ([x0, x1, x2, x3].getD ((own_ML g0 g1 g2 g3).getD j.toNatClampNeg 0).toNatClampNeg 0))) Q h0 hc n0 Z0 XB E_o F_shares F_members F_memberStarts B_sA B_mA A_shA A_q0 hg0 hg1 hg2 hg3 hM hX (own_j0 h0j hj) (own_j1 h0j hj) (dadd_out hs ((dmul_mag (hM _) (hX _) (by decide) (by decide)).fin (by decide))) kt
set_option maxRecDepth 65536 in
set_option maxHeartbeats 400000000 in
theorem inn1_2 (l : Launch) (Z : State) (a0 : Array Value) (hw : ∀ d ∈ tables_1, d.before a0 Z = true) (o : Addr) (q0 : Addr) (q1 : Addr) (g0 : Int32) (g1 : Int32) (g2 : Int32) (g3 : Int32) (s0 : UInt64) (s1 : UInt64) (s2 : UInt64) (s3 : UInt64) (x0 : UInt64) (x1 : UInt64) (x2 : UInt64) (x3 : UInt64) (shA : Addr) (mA : Addr) (sA : Addr) (k1 : ClassId) (k2 : ClassId) (ks : ClassId) (kx : ClassId) (j : Int32) (sm : UInt64) (Q : Option Value → Heap → Prop) (h0 hc : Heap) (n0 : Nat) (Z0 : n0 ≤ hc.size) (XB : Ext h0 hc) (E_o : Exa Z hc o "com/example/sieve_for_links/sieveforlinks/VirtualLinks") (F_shares : Fld Z hc o "com/example/sieve_for_links/sieveforlinks/VirtualLinks" "shares" "[D" (.ref shA)) (F_members : Fld Z hc o "com/example/sieve_for_links/sieveforlinks/VirtualLinks" "members" "[I" (.ref mA)) (F_memberStarts : Fld Z hc o "com/example/sieve_for_links/sieveforlinks/VirtualLinks" "memberStarts" "[I" (.ref sA)) (B_sA : Arv Z hc sA k1 .int (5 : Int32) ((own_SL g0 g1 g2 g3).map Value.int) (.int (0 : Int32))) (B_mA : Arv Z hc mA k2 .int (own_T g0 g1 g2 g3) ((own_ML g0 g1 g2 g3).map Value.int) (.int (0 : Int32))) (A_shA : Arv Z hc shA ks .double (4 : Int32) [(.double s0), (.double s1), (.double s2), (.double s3)] (.double (0 : UInt64))) (A_q0 : Arv Z hc q0 kx .double (4 : Int32) [(.double x0), (.double x1), (.double x2), (.double x3)] (.double (0 : UInt64))) (hg0 : own_G g0) (hg1 : own_G g1) (hg2 : own_G g2) (hg3 : own_G g3) (hM : ∀ i, Mag64 1024 ([s0, s1, s2, s3].getD i 0)) (hX : ∀ i, Mag64 1056 ([x0, x1, x2, x3].getD i 0)) (h0j : 0 ≤ j.toInt) (hj : j.toInt + 2 = ((own_SL g0 g1 g2 g3).getD 2 0).toInt) (hs : NoNaN64 sm) (kt : GoB6 l Z n0 Q hc 0 0 74 #[.val (.ref o), .val (.ref q0), .val (.ref q1), .val (.int (1 : Int32)), .val (.double (own_fold [s0, s1, s2, s3] [x0, x1, x2, x3] (own_ML g0 g1 g2 g3) 2 j sm)), .second, .val (.int (own_jn 2 j))] []) :
    GoB6 l Z n0 Q hc 0 0 28 #[.val (.ref o), .val (.ref q0), .val (.ref q1), .val (.int (1 : Int32)), .val (.double sm), .second, .val (.int j)] [] := by
  refine OwnW.iload (pc' := 30) d6_28 rfl rfl ?_
  refine OwnW.aloadN (pc' := 31) d6_30 rfl (rfl) rfl ?_
  refine OwnW.getF (a0 := a0) (pc' := 34) d6_31 (host := "") (Or.inl (hw _ (List.mem_of_getElem? (i := 33) rfl))) Via.refl F_memberStarts rfl ?_
  refine OwnW.iloadN (pc' := 35) d6_34 rfl rfl ?_
  refine OwnW.iconst (pc' := 36) (v := (1 : Int32)) d6_35 rfl rfl ?_
  refine OwnW.iadd (pc' := 37) d6_36 rfl ?_
  show GoB6 l Z n0 Q hc 0 0 37 #[.val (.ref o), .val (.ref q0), .val (.ref q1), .val (.int (1 : Int32)), .val (.double sm), .second, .val (.int j)] [(.int (2 : Int32)), (.ref sA), (.int j)]
  obtain ⟨cl1, Ar1, qk1, Sz1, Mn1, Hv1, Gf1⟩ := id B_sA
  refine OwnW.iaload (pc' := 38) (v := .int ((own_SL g0 g1 g2 g3).getD 2 0)) d6_37 Ar1 (inb_of Sz1 ⟨by decide, by decide⟩) (Hv1.at (inb_of Sz1 ⟨by decide, by decide⟩) (own_gd (own_SL g0 g1 g2 g3) 2)) rfl ?_
  show GoB6 l Z n0 Q hc 0 0 38 #[.val (.ref o), .val (.ref q0), .val (.ref q1), .val (.int (1 : Int32)), .val (.double sm), .second, .val (.int j)] [(.int ((own_SL g0 g1 g2 g3).getD 2 0)), (.int j)]
  refine OwnW.icmpN (pc' := 41) d6_38 (tlt (own_lt hj)).2.1 rfl ?_
  refine OwnW.dload (pc' := 43) d6_41 rfl rfl ?_
  refine OwnW.aloadN (pc' := 44) d6_43 rfl (rfl) rfl ?_
  refine OwnW.getF (a0 := a0) (pc' := 47) d6_44 (host := "") (Or.inl (hw _ (List.mem_of_getElem? (i := 29) rfl))) Via.refl F_shares rfl ?_
  refine OwnW.aloadN (pc' := 48) d6_47 rfl (rfl) rfl ?_
  refine OwnW.getF (a0 := a0) (pc' := 51) d6_48 (host := "") (Or.inl (hw _ (List.mem_of_getElem? (i := 31) rfl))) Via.refl F_members rfl ?_
  refine OwnW.iload (pc' := 53) d6_51 rfl rfl ?_
  obtain ⟨cl2, Ar2, qk2, Sz2, Mn2, Hv2, Gf2⟩ := id B_mA
  refine OwnW.iaload (pc' := 54) (v := .int ((own_ML g0 g1 g2 g3).getD j.toNatClampNeg 0)) d6_53 Ar2 (inb_of Sz2 (own_jT1 hg0 hg1 hg2 hg3 h0j hj)) (Hv2.at (inb_of Sz2 (own_jT1 hg0 hg1 hg2 hg3 h0j hj)) (own_gd (own_ML g0 g1 g2 g3) j.toNatClampNeg)) rfl ?_
  show GoB6 l Z n0 Q hc 0 0 54 #[.val (.ref o), .val (.ref q0), .val (.ref q1), .val (.int (1 : Int32)), .val (.double sm), .second, .val (.int j)] [(.int ((own_ML g0 g1 g2 g3).getD j.toNatClampNeg 0)), (.ref shA), (.double sm)]
  obtain ⟨cl3, Ar3, qk3, Sz3, Mn3, Hv3, Gf3⟩ := id A_shA
  refine OwnW.daload (pc' := 55) (v := .double ([s0, s1, s2, s3].getD ((own_ML g0 g1 g2 g3).getD j.toNatClampNeg 0).toNatClampNeg 0)) d6_54 Ar3 (inb_of Sz3 (own_q hg0 hg1 hg2 hg3 _)) (Hv3.at (inb_of Sz3 (own_q hg0 hg1 hg2 hg3 _)) (own_gdD [s0, s1, s2, s3] ((own_ML g0 g1 g2 g3).getD j.toNatClampNeg 0).toNatClampNeg)) rfl ?_
  show GoB6 l Z n0 Q hc 0 0 55 #[.val (.ref o), .val (.ref q0), .val (.ref q1), .val (.int (1 : Int32)), .val (.double sm), .second, .val (.int j)] [(.double ([s0, s1, s2, s3].getD ((own_ML g0 g1 g2 g3).getD j.toNatClampNeg 0).toNatClampNeg 0)), (.double sm)]
  refine OwnW.aloadN (pc' := 56) d6_55 rfl (rfl) rfl ?_
  refine OwnW.aloadN (pc' := 57) d6_56 rfl (rfl) rfl ?_
  refine OwnW.getF (a0 := a0) (pc' := 60) d6_57 (host := "") (Or.inl (hw _ (List.mem_of_getElem? (i := 31) rfl))) Via.refl F_members rfl ?_
  refine OwnW.iload (pc' := 62) d6_60 rfl rfl ?_
  obtain ⟨cl4, Ar4, qk4, Sz4, Mn4, Hv4, Gf4⟩ := id B_mA
  refine OwnW.iaload (pc' := 63) (v := .int ((own_ML g0 g1 g2 g3).getD j.toNatClampNeg 0)) d6_62 Ar4 (inb_of Sz4 (own_jT1 hg0 hg1 hg2 hg3 h0j hj)) (Hv4.at (inb_of Sz4 (own_jT1 hg0 hg1 hg2 hg3 h0j hj)) (own_gd (own_ML g0 g1 g2 g3) j.toNatClampNeg)) rfl ?_
  show GoB6 l Z n0 Q hc 0 0 63 #[.val (.ref o), .val (.ref q0), .val (.ref q1), .val (.int (1 : Int32)), .val (.double sm), .second, .val (.int j)] [(.int ((own_ML g0 g1 g2 g3).getD j.toNatClampNeg 0)), (.ref q0), (.double ([s0, s1, s2, s3].getD ((own_ML g0 g1 g2 g3).getD j.toNatClampNeg 0).toNatClampNeg 0)), (.double sm)]
  obtain ⟨cl5, Ar5, qk5, Sz5, Mn5, Hv5, Gf5⟩ := id A_q0
  refine OwnW.daload (pc' := 64) (v := .double ([x0, x1, x2, x3].getD ((own_ML g0 g1 g2 g3).getD j.toNatClampNeg 0).toNatClampNeg 0)) d6_63 Ar5 (inb_of Sz5 (own_q hg0 hg1 hg2 hg3 _)) (Hv5.at (inb_of Sz5 (own_q hg0 hg1 hg2 hg3 _)) (own_gdD [x0, x1, x2, x3] ((own_ML g0 g1 g2 g3).getD j.toNatClampNeg 0).toNatClampNeg)) rfl ?_
  show GoB6 l Z n0 Q hc 0 0 64 #[.val (.ref o), .val (.ref q0), .val (.ref q1), .val (.int (1 : Int32)), .val (.double sm), .second, .val (.int j)] [(.double ([x0, x1, x2, x3].getD ((own_ML g0 g1 g2 g3).getD j.toNatClampNeg 0).toNatClampNeg 0)), (.double ([s0, s1, s2, s3].getD ((own_ML g0 g1 g2 g3).getD j.toNatClampNeg 0).toNatClampNeg 0)), (.double sm)]
  refine OwnW.dmul (pc' := 65) d6_64 (dmul_out ((hM _).fin (by decide)) ((hX _).fin (by decide))) rfl rfl ?_
  refine OwnW.dadd (pc' := 66) d6_65 (dadd_out hs ((dmul_mag (hM _) (hX _) (by decide) (by decide)).fin (by decide))) rfl rfl ?_
  refine OwnW.dstore (pc' := 68) (L' := #[.val (.ref o), .val (.ref q0), .val (.ref q1), .val (.int (1 : Int32)), .val (.double (FP.dadd sm (FP.dmul ([s0, s1, s2, s3].getD ((own_ML g0 g1 g2 g3).getD j.toNatClampNeg 0).toNatClampNeg 0) ([x0, x1, x2, x3].getD ((own_ML g0 g1 g2 g3).getD j.toNatClampNeg 0).toNatClampNeg 0)))), .second, .val (.int j)]) d6_66 rfl rfl ?_
  refine OwnW.iinc (pc' := 71) (L' := #[.val (.ref o), .val (.ref q0), .val (.ref q1), .val (.int (1 : Int32)), .val (.double (FP.dadd sm (FP.dmul ([s0, s1, s2, s3].getD ((own_ML g0 g1 g2 g3).getD j.toNatClampNeg 0).toNatClampNeg 0) ([x0, x1, x2, x3].getD ((own_ML g0 g1 g2 g3).getD j.toNatClampNeg 0).toNatClampNeg 0)))), .second, .val (.int (j + (1 : Int32)))]) (d := (1 : Int32)) d6_68 rfl rfl rfl rfl ?_
  refine OwnW.goto (pc' := 28) d6_71 (by decide) (by decide) ?_
  exact inn1_1 l Z a0 hw o q0 q1 g0 g1 g2 g3 s0 s1 s2 s3 x0 x1 x2 x3 shA mA sA k1 k2 ks kx (j + (1 : Int32)) (FP.dadd sm (FP.dmul ([s0, s1, s2, s3].getD ((own_ML g0 g1 g2 g3).getD j.toNatClampNeg 0).toNatClampNeg 0) ([x0, x1, x2, x3].getD ((own_ML g0 g1 g2 g3).getD j.toNatClampNeg 0).toNatClampNeg 0))) Q h0 hc n0 Z0 XB E_o F_shares F_members F_memberStarts B_sA B_mA A_shA A_q0 hg0 hg1 hg2 hg3 hM hX (own_j0 h0j hj) (own_j1 h0j hj) (dadd_out hs ((dmul_mag (hM _) (hX _) (by decide) (by decide)).fin (by decide))) kt
set_option maxRecDepth 65536 in
set_option maxHeartbeats 400000000 in
theorem inn1_3 (l : Launch) (Z : State) (a0 : Array Value) (hw : ∀ d ∈ tables_1, d.before a0 Z = true) (o : Addr) (q0 : Addr) (q1 : Addr) (g0 : Int32) (g1 : Int32) (g2 : Int32) (g3 : Int32) (s0 : UInt64) (s1 : UInt64) (s2 : UInt64) (s3 : UInt64) (x0 : UInt64) (x1 : UInt64) (x2 : UInt64) (x3 : UInt64) (shA : Addr) (mA : Addr) (sA : Addr) (k1 : ClassId) (k2 : ClassId) (ks : ClassId) (kx : ClassId) (j : Int32) (sm : UInt64) (Q : Option Value → Heap → Prop) (h0 hc : Heap) (n0 : Nat) (Z0 : n0 ≤ hc.size) (XB : Ext h0 hc) (E_o : Exa Z hc o "com/example/sieve_for_links/sieveforlinks/VirtualLinks") (F_shares : Fld Z hc o "com/example/sieve_for_links/sieveforlinks/VirtualLinks" "shares" "[D" (.ref shA)) (F_members : Fld Z hc o "com/example/sieve_for_links/sieveforlinks/VirtualLinks" "members" "[I" (.ref mA)) (F_memberStarts : Fld Z hc o "com/example/sieve_for_links/sieveforlinks/VirtualLinks" "memberStarts" "[I" (.ref sA)) (B_sA : Arv Z hc sA k1 .int (5 : Int32) ((own_SL g0 g1 g2 g3).map Value.int) (.int (0 : Int32))) (B_mA : Arv Z hc mA k2 .int (own_T g0 g1 g2 g3) ((own_ML g0 g1 g2 g3).map Value.int) (.int (0 : Int32))) (A_shA : Arv Z hc shA ks .double (4 : Int32) [(.double s0), (.double s1), (.double s2), (.double s3)] (.double (0 : UInt64))) (A_q0 : Arv Z hc q0 kx .double (4 : Int32) [(.double x0), (.double x1), (.double x2), (.double x3)] (.double (0 : UInt64))) (hg0 : own_G g0) (hg1 : own_G g1) (hg2 : own_G g2) (hg3 : own_G g3) (hM : ∀ i, Mag64 1024 ([s0, s1, s2, s3].getD i 0)) (hX : ∀ i, Mag64 1056 ([x0, x1, x2, x3].getD i 0)) (h0j : 0 ≤ j.toInt) (hj : j.toInt + 3 = ((own_SL g0 g1 g2 g3).getD 2 0).toInt) (hs : NoNaN64 sm) (kt : GoB6 l Z n0 Q hc 0 0 74 #[.val (.ref o), .val (.ref q0), .val (.ref q1), .val (.int (1 : Int32)), .val (.double (own_fold [s0, s1, s2, s3] [x0, x1, x2, x3] (own_ML g0 g1 g2 g3) 3 j sm)), .second, .val (.int (own_jn 3 j))] []) :
    GoB6 l Z n0 Q hc 0 0 28 #[.val (.ref o), .val (.ref q0), .val (.ref q1), .val (.int (1 : Int32)), .val (.double sm), .second, .val (.int j)] [] := by
  refine OwnW.iload (pc' := 30) d6_28 rfl rfl ?_
  refine OwnW.aloadN (pc' := 31) d6_30 rfl (rfl) rfl ?_
  refine OwnW.getF (a0 := a0) (pc' := 34) d6_31 (host := "") (Or.inl (hw _ (List.mem_of_getElem? (i := 33) rfl))) Via.refl F_memberStarts rfl ?_
  refine OwnW.iloadN (pc' := 35) d6_34 rfl rfl ?_
  refine OwnW.iconst (pc' := 36) (v := (1 : Int32)) d6_35 rfl rfl ?_
  refine OwnW.iadd (pc' := 37) d6_36 rfl ?_
  show GoB6 l Z n0 Q hc 0 0 37 #[.val (.ref o), .val (.ref q0), .val (.ref q1), .val (.int (1 : Int32)), .val (.double sm), .second, .val (.int j)] [(.int (2 : Int32)), (.ref sA), (.int j)]
  obtain ⟨cl1, Ar1, qk1, Sz1, Mn1, Hv1, Gf1⟩ := id B_sA
  refine OwnW.iaload (pc' := 38) (v := .int ((own_SL g0 g1 g2 g3).getD 2 0)) d6_37 Ar1 (inb_of Sz1 ⟨by decide, by decide⟩) (Hv1.at (inb_of Sz1 ⟨by decide, by decide⟩) (own_gd (own_SL g0 g1 g2 g3) 2)) rfl ?_
  show GoB6 l Z n0 Q hc 0 0 38 #[.val (.ref o), .val (.ref q0), .val (.ref q1), .val (.int (1 : Int32)), .val (.double sm), .second, .val (.int j)] [(.int ((own_SL g0 g1 g2 g3).getD 2 0)), (.int j)]
  refine OwnW.icmpN (pc' := 41) d6_38 (tlt (own_lt hj)).2.1 rfl ?_
  refine OwnW.dload (pc' := 43) d6_41 rfl rfl ?_
  refine OwnW.aloadN (pc' := 44) d6_43 rfl (rfl) rfl ?_
  refine OwnW.getF (a0 := a0) (pc' := 47) d6_44 (host := "") (Or.inl (hw _ (List.mem_of_getElem? (i := 29) rfl))) Via.refl F_shares rfl ?_
  refine OwnW.aloadN (pc' := 48) d6_47 rfl (rfl) rfl ?_
  refine OwnW.getF (a0 := a0) (pc' := 51) d6_48 (host := "") (Or.inl (hw _ (List.mem_of_getElem? (i := 31) rfl))) Via.refl F_members rfl ?_
  refine OwnW.iload (pc' := 53) d6_51 rfl rfl ?_
  obtain ⟨cl2, Ar2, qk2, Sz2, Mn2, Hv2, Gf2⟩ := id B_mA
  refine OwnW.iaload (pc' := 54) (v := .int ((own_ML g0 g1 g2 g3).getD j.toNatClampNeg 0)) d6_53 Ar2 (inb_of Sz2 (own_jT1 hg0 hg1 hg2 hg3 h0j hj)) (Hv2.at (inb_of Sz2 (own_jT1 hg0 hg1 hg2 hg3 h0j hj)) (own_gd (own_ML g0 g1 g2 g3) j.toNatClampNeg)) rfl ?_
  show GoB6 l Z n0 Q hc 0 0 54 #[.val (.ref o), .val (.ref q0), .val (.ref q1), .val (.int (1 : Int32)), .val (.double sm), .second, .val (.int j)] [(.int ((own_ML g0 g1 g2 g3).getD j.toNatClampNeg 0)), (.ref shA), (.double sm)]
  obtain ⟨cl3, Ar3, qk3, Sz3, Mn3, Hv3, Gf3⟩ := id A_shA
  refine OwnW.daload (pc' := 55) (v := .double ([s0, s1, s2, s3].getD ((own_ML g0 g1 g2 g3).getD j.toNatClampNeg 0).toNatClampNeg 0)) d6_54 Ar3 (inb_of Sz3 (own_q hg0 hg1 hg2 hg3 _)) (Hv3.at (inb_of Sz3 (own_q hg0 hg1 hg2 hg3 _)) (own_gdD [s0, s1, s2, s3] ((own_ML g0 g1 g2 g3).getD j.toNatClampNeg 0).toNatClampNeg)) rfl ?_
  show GoB6 l Z n0 Q hc 0 0 55 #[.val (.ref o), .val (.ref q0), .val (.ref q1), .val (.int (1 : Int32)), .val (.double sm), .second, .val (.int j)] [(.double ([s0, s1, s2, s3].getD ((own_ML g0 g1 g2 g3).getD j.toNatClampNeg 0).toNatClampNeg 0)), (.double sm)]
  refine OwnW.aloadN (pc' := 56) d6_55 rfl (rfl) rfl ?_
  refine OwnW.aloadN (pc' := 57) d6_56 rfl (rfl) rfl ?_
  refine OwnW.getF (a0 := a0) (pc' := 60) d6_57 (host := "") (Or.inl (hw _ (List.mem_of_getElem? (i := 31) rfl))) Via.refl F_members rfl ?_
  refine OwnW.iload (pc' := 62) d6_60 rfl rfl ?_
  obtain ⟨cl4, Ar4, qk4, Sz4, Mn4, Hv4, Gf4⟩ := id B_mA
  refine OwnW.iaload (pc' := 63) (v := .int ((own_ML g0 g1 g2 g3).getD j.toNatClampNeg 0)) d6_62 Ar4 (inb_of Sz4 (own_jT1 hg0 hg1 hg2 hg3 h0j hj)) (Hv4.at (inb_of Sz4 (own_jT1 hg0 hg1 hg2 hg3 h0j hj)) (own_gd (own_ML g0 g1 g2 g3) j.toNatClampNeg)) rfl ?_
  show GoB6 l Z n0 Q hc 0 0 63 #[.val (.ref o), .val (.ref q0), .val (.ref q1), .val (.int (1 : Int32)), .val (.double sm), .second, .val (.int j)] [(.int ((own_ML g0 g1 g2 g3).getD j.toNatClampNeg 0)), (.ref q0), (.double ([s0, s1, s2, s3].getD ((own_ML g0 g1 g2 g3).getD j.toNatClampNeg 0).toNatClampNeg 0)), (.double sm)]
  obtain ⟨cl5, Ar5, qk5, Sz5, Mn5, Hv5, Gf5⟩ := id A_q0
  refine OwnW.daload (pc' := 64) (v := .double ([x0, x1, x2, x3].getD ((own_ML g0 g1 g2 g3).getD j.toNatClampNeg 0).toNatClampNeg 0)) d6_63 Ar5 (inb_of Sz5 (own_q hg0 hg1 hg2 hg3 _)) (Hv5.at (inb_of Sz5 (own_q hg0 hg1 hg2 hg3 _)) (own_gdD [x0, x1, x2, x3] ((own_ML g0 g1 g2 g3).getD j.toNatClampNeg 0).toNatClampNeg)) rfl ?_
  show GoB6 l Z n0 Q hc 0 0 64 #[.val (.ref o), .val (.ref q0), .val (.ref q1), .val (.int (1 : Int32)), .val (.double sm), .second, .val (.int j)] [(.double ([x0, x1, x2, x3].getD ((own_ML g0 g1 g2 g3).getD j.toNatClampNeg 0).toNatClampNeg 0)), (.double ([s0, s1, s2, s3].getD ((own_ML g0 g1 g2 g3).getD j.toNatClampNeg 0).toNatClampNeg 0)), (.double sm)]
  refine OwnW.dmul (pc' := 65) d6_64 (dmul_out ((hM _).fin (by decide)) ((hX _).fin (by decide))) rfl rfl ?_
  refine OwnW.dadd (pc' := 66) d6_65 (dadd_out hs ((dmul_mag (hM _) (hX _) (by decide) (by decide)).fin (by decide))) rfl rfl ?_
  refine OwnW.dstore (pc' := 68) (L' := #[.val (.ref o), .val (.ref q0), .val (.ref q1), .val (.int (1 : Int32)), .val (.double (FP.dadd sm (FP.dmul ([s0, s1, s2, s3].getD ((own_ML g0 g1 g2 g3).getD j.toNatClampNeg 0).toNatClampNeg 0) ([x0, x1, x2, x3].getD ((own_ML g0 g1 g2 g3).getD j.toNatClampNeg 0).toNatClampNeg 0)))), .second, .val (.int j)]) d6_66 rfl rfl ?_
  refine OwnW.iinc (pc' := 71) (L' := #[.val (.ref o), .val (.ref q0), .val (.ref q1), .val (.int (1 : Int32)), .val (.double (FP.dadd sm (FP.dmul ([s0, s1, s2, s3].getD ((own_ML g0 g1 g2 g3).getD j.toNatClampNeg 0).toNatClampNeg 0) ([x0, x1, x2, x3].getD ((own_ML g0 g1 g2 g3).getD j.toNatClampNeg 0).toNatClampNeg 0)))), .second, .val (.int (j + (1 : Int32)))]) (d := (1 : Int32)) d6_68 rfl rfl rfl rfl ?_
  refine OwnW.goto (pc' := 28) d6_71 (by decide) (by decide) ?_
  exact inn1_2 l Z a0 hw o q0 q1 g0 g1 g2 g3 s0 s1 s2 s3 x0 x1 x2 x3 shA mA sA k1 k2 ks kx (j + (1 : Int32)) (FP.dadd sm (FP.dmul ([s0, s1, s2, s3].getD ((own_ML g0 g1 g2 g3).getD j.toNatClampNeg 0).toNatClampNeg 0) ([x0, x1, x2, x3].getD ((own_ML g0 g1 g2 g3).getD j.toNatClampNeg 0).toNatClampNeg 0))) Q h0 hc n0 Z0 XB E_o F_shares F_members F_memberStarts B_sA B_mA A_shA A_q0 hg0 hg1 hg2 hg3 hM hX (own_j0 h0j hj) (own_j1 h0j hj) (dadd_out hs ((dmul_mag (hM _) (hX _) (by decide) (by decide)).fin (by decide))) kt
set_option maxRecDepth 65536 in
set_option maxHeartbeats 400000000 in
theorem inn1_4 (l : Launch) (Z : State) (a0 : Array Value) (hw : ∀ d ∈ tables_1, d.before a0 Z = true) (o : Addr) (q0 : Addr) (q1 : Addr) (g0 : Int32) (g1 : Int32) (g2 : Int32) (g3 : Int32) (s0 : UInt64) (s1 : UInt64) (s2 : UInt64) (s3 : UInt64) (x0 : UInt64) (x1 : UInt64) (x2 : UInt64) (x3 : UInt64) (shA : Addr) (mA : Addr) (sA : Addr) (k1 : ClassId) (k2 : ClassId) (ks : ClassId) (kx : ClassId) (j : Int32) (sm : UInt64) (Q : Option Value → Heap → Prop) (h0 hc : Heap) (n0 : Nat) (Z0 : n0 ≤ hc.size) (XB : Ext h0 hc) (E_o : Exa Z hc o "com/example/sieve_for_links/sieveforlinks/VirtualLinks") (F_shares : Fld Z hc o "com/example/sieve_for_links/sieveforlinks/VirtualLinks" "shares" "[D" (.ref shA)) (F_members : Fld Z hc o "com/example/sieve_for_links/sieveforlinks/VirtualLinks" "members" "[I" (.ref mA)) (F_memberStarts : Fld Z hc o "com/example/sieve_for_links/sieveforlinks/VirtualLinks" "memberStarts" "[I" (.ref sA)) (B_sA : Arv Z hc sA k1 .int (5 : Int32) ((own_SL g0 g1 g2 g3).map Value.int) (.int (0 : Int32))) (B_mA : Arv Z hc mA k2 .int (own_T g0 g1 g2 g3) ((own_ML g0 g1 g2 g3).map Value.int) (.int (0 : Int32))) (A_shA : Arv Z hc shA ks .double (4 : Int32) [(.double s0), (.double s1), (.double s2), (.double s3)] (.double (0 : UInt64))) (A_q0 : Arv Z hc q0 kx .double (4 : Int32) [(.double x0), (.double x1), (.double x2), (.double x3)] (.double (0 : UInt64))) (hg0 : own_G g0) (hg1 : own_G g1) (hg2 : own_G g2) (hg3 : own_G g3) (hM : ∀ i, Mag64 1024 ([s0, s1, s2, s3].getD i 0)) (hX : ∀ i, Mag64 1056 ([x0, x1, x2, x3].getD i 0)) (h0j : 0 ≤ j.toInt) (hj : j.toInt + 4 = ((own_SL g0 g1 g2 g3).getD 2 0).toInt) (hs : NoNaN64 sm) (kt : GoB6 l Z n0 Q hc 0 0 74 #[.val (.ref o), .val (.ref q0), .val (.ref q1), .val (.int (1 : Int32)), .val (.double (own_fold [s0, s1, s2, s3] [x0, x1, x2, x3] (own_ML g0 g1 g2 g3) 4 j sm)), .second, .val (.int (own_jn 4 j))] []) :
    GoB6 l Z n0 Q hc 0 0 28 #[.val (.ref o), .val (.ref q0), .val (.ref q1), .val (.int (1 : Int32)), .val (.double sm), .second, .val (.int j)] [] := by
  refine OwnW.iload (pc' := 30) d6_28 rfl rfl ?_
  refine OwnW.aloadN (pc' := 31) d6_30 rfl (rfl) rfl ?_
  refine OwnW.getF (a0 := a0) (pc' := 34) d6_31 (host := "") (Or.inl (hw _ (List.mem_of_getElem? (i := 33) rfl))) Via.refl F_memberStarts rfl ?_
  refine OwnW.iloadN (pc' := 35) d6_34 rfl rfl ?_
  refine OwnW.iconst (pc' := 36) (v := (1 : Int32)) d6_35 rfl rfl ?_
  refine OwnW.iadd (pc' := 37) d6_36 rfl ?_
  show GoB6 l Z n0 Q hc 0 0 37 #[.val (.ref o), .val (.ref q0), .val (.ref q1), .val (.int (1 : Int32)), .val (.double sm), .second, .val (.int j)] [(.int (2 : Int32)), (.ref sA), (.int j)]
  obtain ⟨cl1, Ar1, qk1, Sz1, Mn1, Hv1, Gf1⟩ := id B_sA
  refine OwnW.iaload (pc' := 38) (v := .int ((own_SL g0 g1 g2 g3).getD 2 0)) d6_37 Ar1 (inb_of Sz1 ⟨by decide, by decide⟩) (Hv1.at (inb_of Sz1 ⟨by decide, by decide⟩) (own_gd (own_SL g0 g1 g2 g3) 2)) rfl ?_
  show GoB6 l Z n0 Q hc 0 0 38 #[.val (.ref o), .val (.ref q0), .val (.ref q1), .val (.int (1 : Int32)), .val (.double sm), .second, .val (.int j)] [(.int ((own_SL g0 g1 g2 g3).getD 2 0)), (.int j)]
  refine OwnW.icmpN (pc' := 41) d6_38 (tlt (own_lt hj)).2.1 rfl ?_
  refine OwnW.dload (pc' := 43) d6_41 rfl rfl ?_
  refine OwnW.aloadN (pc' := 44) d6_43 rfl (rfl) rfl ?_
  refine OwnW.getF (a0 := a0) (pc' := 47) d6_44 (host := "") (Or.inl (hw _ (List.mem_of_getElem? (i := 29) rfl))) Via.refl F_shares rfl ?_
  refine OwnW.aloadN (pc' := 48) d6_47 rfl (rfl) rfl ?_
  refine OwnW.getF (a0 := a0) (pc' := 51) d6_48 (host := "") (Or.inl (hw _ (List.mem_of_getElem? (i := 31) rfl))) Via.refl F_members rfl ?_
  refine OwnW.iload (pc' := 53) d6_51 rfl rfl ?_
  obtain ⟨cl2, Ar2, qk2, Sz2, Mn2, Hv2, Gf2⟩ := id B_mA
  refine OwnW.iaload (pc' := 54) (v := .int ((own_ML g0 g1 g2 g3).getD j.toNatClampNeg 0)) d6_53 Ar2 (inb_of Sz2 (own_jT1 hg0 hg1 hg2 hg3 h0j hj)) (Hv2.at (inb_of Sz2 (own_jT1 hg0 hg1 hg2 hg3 h0j hj)) (own_gd (own_ML g0 g1 g2 g3) j.toNatClampNeg)) rfl ?_
  show GoB6 l Z n0 Q hc 0 0 54 #[.val (.ref o), .val (.ref q0), .val (.ref q1), .val (.int (1 : Int32)), .val (.double sm), .second, .val (.int j)] [(.int ((own_ML g0 g1 g2 g3).getD j.toNatClampNeg 0)), (.ref shA), (.double sm)]
  obtain ⟨cl3, Ar3, qk3, Sz3, Mn3, Hv3, Gf3⟩ := id A_shA
  refine OwnW.daload (pc' := 55) (v := .double ([s0, s1, s2, s3].getD ((own_ML g0 g1 g2 g3).getD j.toNatClampNeg 0).toNatClampNeg 0)) d6_54 Ar3 (inb_of Sz3 (own_q hg0 hg1 hg2 hg3 _)) (Hv3.at (inb_of Sz3 (own_q hg0 hg1 hg2 hg3 _)) (own_gdD [s0, s1, s2, s3] ((own_ML g0 g1 g2 g3).getD j.toNatClampNeg 0).toNatClampNeg)) rfl ?_
  show GoB6 l Z n0 Q hc 0 0 55 #[.val (.ref o), .val (.ref q0), .val (.ref q1), .val (.int (1 : Int32)), .val (.double sm), .second, .val (.int j)] [(.double ([s0, s1, s2, s3].getD ((own_ML g0 g1 g2 g3).getD j.toNatClampNeg 0).toNatClampNeg 0)), (.double sm)]
  refine OwnW.aloadN (pc' := 56) d6_55 rfl (rfl) rfl ?_
  refine OwnW.aloadN (pc' := 57) d6_56 rfl (rfl) rfl ?_
  refine OwnW.getF (a0 := a0) (pc' := 60) d6_57 (host := "") (Or.inl (hw _ (List.mem_of_getElem? (i := 31) rfl))) Via.refl F_members rfl ?_
  refine OwnW.iload (pc' := 62) d6_60 rfl rfl ?_
  obtain ⟨cl4, Ar4, qk4, Sz4, Mn4, Hv4, Gf4⟩ := id B_mA
  refine OwnW.iaload (pc' := 63) (v := .int ((own_ML g0 g1 g2 g3).getD j.toNatClampNeg 0)) d6_62 Ar4 (inb_of Sz4 (own_jT1 hg0 hg1 hg2 hg3 h0j hj)) (Hv4.at (inb_of Sz4 (own_jT1 hg0 hg1 hg2 hg3 h0j hj)) (own_gd (own_ML g0 g1 g2 g3) j.toNatClampNeg)) rfl ?_
  show GoB6 l Z n0 Q hc 0 0 63 #[.val (.ref o), .val (.ref q0), .val (.ref q1), .val (.int (1 : Int32)), .val (.double sm), .second, .val (.int j)] [(.int ((own_ML g0 g1 g2 g3).getD j.toNatClampNeg 0)), (.ref q0), (.double ([s0, s1, s2, s3].getD ((own_ML g0 g1 g2 g3).getD j.toNatClampNeg 0).toNatClampNeg 0)), (.double sm)]
  obtain ⟨cl5, Ar5, qk5, Sz5, Mn5, Hv5, Gf5⟩ := id A_q0
  refine OwnW.daload (pc' := 64) (v := .double ([x0, x1, x2, x3].getD ((own_ML g0 g1 g2 g3).getD j.toNatClampNeg 0).toNatClampNeg 0)) d6_63 Ar5 (inb_of Sz5 (own_q hg0 hg1 hg2 hg3 _)) (Hv5.at (inb_of Sz5 (own_q hg0 hg1 hg2 hg3 _)) (own_gdD [x0, x1, x2, x3] ((own_ML g0 g1 g2 g3).getD j.toNatClampNeg 0).toNatClampNeg)) rfl ?_
  show GoB6 l Z n0 Q hc 0 0 64 #[.val (.ref o), .val (.ref q0), .val (.ref q1), .val (.int (1 : Int32)), .val (.double sm), .second, .val (.int j)] [(.double ([x0, x1, x2, x3].getD ((own_ML g0 g1 g2 g3).getD j.toNatClampNeg 0).toNatClampNeg 0)), (.double ([s0, s1, s2, s3].getD ((own_ML g0 g1 g2 g3).getD j.toNatClampNeg 0).toNatClampNeg 0)), (.double sm)]
  refine OwnW.dmul (pc' := 65) d6_64 (dmul_out ((hM _).fin (by decide)) ((hX _).fin (by decide))) rfl rfl ?_
  refine OwnW.dadd (pc' := 66) d6_65 (dadd_out hs ((dmul_mag (hM _) (hX _) (by decide) (by decide)).fin (by decide))) rfl rfl ?_
  refine OwnW.dstore (pc' := 68) (L' := #[.val (.ref o), .val (.ref q0), .val (.ref q1), .val (.int (1 : Int32)), .val (.double (FP.dadd sm (FP.dmul ([s0, s1, s2, s3].getD ((own_ML g0 g1 g2 g3).getD j.toNatClampNeg 0).toNatClampNeg 0) ([x0, x1, x2, x3].getD ((own_ML g0 g1 g2 g3).getD j.toNatClampNeg 0).toNatClampNeg 0)))), .second, .val (.int j)]) d6_66 rfl rfl ?_
  refine OwnW.iinc (pc' := 71) (L' := #[.val (.ref o), .val (.ref q0), .val (.ref q1), .val (.int (1 : Int32)), .val (.double (FP.dadd sm (FP.dmul ([s0, s1, s2, s3].getD ((own_ML g0 g1 g2 g3).getD j.toNatClampNeg 0).toNatClampNeg 0) ([x0, x1, x2, x3].getD ((own_ML g0 g1 g2 g3).getD j.toNatClampNeg 0).toNatClampNeg 0)))), .second, .val (.int (j + (1 : Int32)))]) (d := (1 : Int32)) d6_68 rfl rfl rfl rfl ?_
  refine OwnW.goto (pc' := 28) d6_71 (by decide) (by decide) ?_
  exact inn1_3 l Z a0 hw o q0 q1 g0 g1 g2 g3 s0 s1 s2 s3 x0 x1 x2 x3 shA mA sA k1 k2 ks kx (j + (1 : Int32)) (FP.dadd sm (FP.dmul ([s0, s1, s2, s3].getD ((own_ML g0 g1 g2 g3).getD j.toNatClampNeg 0).toNatClampNeg 0) ([x0, x1, x2, x3].getD ((own_ML g0 g1 g2 g3).getD j.toNatClampNeg 0).toNatClampNeg 0))) Q h0 hc n0 Z0 XB E_o F_shares F_members F_memberStarts B_sA B_mA A_shA A_q0 hg0 hg1 hg2 hg3 hM hX (own_j0 h0j hj) (own_j1 h0j hj) (dadd_out hs ((dmul_mag (hM _) (hX _) (by decide) (by decide)).fin (by decide))) kt
set_option maxRecDepth 65536 in
set_option maxHeartbeats 400000000 in
theorem inn2_0 (l : Launch) (Z : State) (a0 : Array Value) (hw : ∀ d ∈ tables_1, d.before a0 Z = true) (o : Addr) (q0 : Addr) (q1 : Addr) (g0 : Int32) (g1 : Int32) (g2 : Int32) (g3 : Int32) (s0 : UInt64) (s1 : UInt64) (s2 : UInt64) (s3 : UInt64) (x0 : UInt64) (x1 : UInt64) (x2 : UInt64) (x3 : UInt64) (shA : Addr) (mA : Addr) (sA : Addr) (k1 : ClassId) (k2 : ClassId) (ks : ClassId) (kx : ClassId) (j : Int32) (sm : UInt64) (Q : Option Value → Heap → Prop) (h0 hc : Heap) (n0 : Nat) (Z0 : n0 ≤ hc.size) (XB : Ext h0 hc) (E_o : Exa Z hc o "com/example/sieve_for_links/sieveforlinks/VirtualLinks") (F_shares : Fld Z hc o "com/example/sieve_for_links/sieveforlinks/VirtualLinks" "shares" "[D" (.ref shA)) (F_members : Fld Z hc o "com/example/sieve_for_links/sieveforlinks/VirtualLinks" "members" "[I" (.ref mA)) (F_memberStarts : Fld Z hc o "com/example/sieve_for_links/sieveforlinks/VirtualLinks" "memberStarts" "[I" (.ref sA)) (B_sA : Arv Z hc sA k1 .int (5 : Int32) ((own_SL g0 g1 g2 g3).map Value.int) (.int (0 : Int32))) (B_mA : Arv Z hc mA k2 .int (own_T g0 g1 g2 g3) ((own_ML g0 g1 g2 g3).map Value.int) (.int (0 : Int32))) (A_shA : Arv Z hc shA ks .double (4 : Int32) [(.double s0), (.double s1), (.double s2), (.double s3)] (.double (0 : UInt64))) (A_q0 : Arv Z hc q0 kx .double (4 : Int32) [(.double x0), (.double x1), (.double x2), (.double x3)] (.double (0 : UInt64))) (hg0 : own_G g0) (hg1 : own_G g1) (hg2 : own_G g2) (hg3 : own_G g3) (hM : ∀ i, Mag64 1024 ([s0, s1, s2, s3].getD i 0)) (hX : ∀ i, Mag64 1056 ([x0, x1, x2, x3].getD i 0)) (h0j : 0 ≤ j.toInt) (hj : j.toInt + 0 = ((own_SL g0 g1 g2 g3).getD 3 0).toInt) (hs : NoNaN64 sm) (kt : GoB6 l Z n0 Q hc 0 0 74 #[.val (.ref o), .val (.ref q0), .val (.ref q1), .val (.int (2 : Int32)), .val (.double (own_fold [s0, s1, s2, s3] [x0, x1, x2, x3] (own_ML g0 g1 g2 g3) 0 j sm)), .second, .val (.int (own_jn 0 j))] []) :
    GoB6 l Z n0 Q hc 0 0 28 #[.val (.ref o), .val (.ref q0), .val (.ref q1), .val (.int (2 : Int32)), .val (.double sm), .second, .val (.int j)] [] := by
  refine OwnW.iload (pc' := 30) d6_28 rfl rfl ?_
  refine OwnW.aloadN (pc' := 31) d6_30 rfl (rfl) rfl ?_
  refine OwnW.getF (a0 := a0) (pc' := 34) d6_31 (host := "") (Or.inl (hw _ (List.mem_of_getElem? (i := 33) rfl))) Via.refl F_memberStarts rfl ?_
  refine OwnW.iloadN (pc' := 35) d6_34 rfl rfl ?_
  refine OwnW.iconst (pc' := 36) (v := (1 : Int32)) d6_35 rfl rfl ?_
  refine OwnW.iadd (pc' := 37) d6_36 rfl ?_
  show GoB6 l Z n0 Q hc 0 0 37 #[.val (.ref o), .val (.ref q0), .val (.ref q1), .val (.int (2 : Int32)), .val (.double sm), .second, .val (.int j)] [(.int (3 : Int32)), (.ref sA), (.int j)]
  obtain ⟨cl1, Ar1, qk1, Sz1, Mn1, Hv1, Gf1⟩ := id B_sA
  refine OwnW.iaload (pc' := 38) (v := .int ((own_SL g0 g1 g2 g3).getD 3 0)) d6_37 Ar1 (inb_of Sz1 ⟨by decide, by decide⟩) (Hv1.at (inb_of Sz1 ⟨by decide, by decide⟩) (own_gd (own_SL g0 g1 g2 g3) 3)) rfl ?_
  show GoB6 l Z n0 Q hc 0 0 38 #[.val (.ref o), .val (.ref q0), .val (.ref q1), .val (.int (2 : Int32)), .val (.double sm), .second, .val (.int j)] [(.int ((own_SL g0 g1 g2 g3).getD 3 0)), (.int j)]
  refine OwnW.icmpY (pc' := 74) d6_38 (flt (own_ge hj)).2.1 (by decide) (by decide) ?_
  exact kt
set_option maxRecDepth 65536 in
set_option maxHeartbeats 400000000 in
theorem inn2_1 (l : Launch) (Z : State) (a0 : Array Value) (hw : ∀ d ∈ tables_1, d.before a0 Z = true) (o : Addr) (q0 : Addr) (q1 : Addr) (g0 : Int32) (g1 : Int32) (g2 : Int32) (g3 : Int32) (s0 : UInt64) (s1 : UInt64) (s2 : UInt64) (s3 : UInt64) (x0 : UInt64) (x1 : UInt64) (x2 : UInt64) (x3 : UInt64) (shA : Addr) (mA : Addr) (sA : Addr) (k1 : ClassId) (k2 : ClassId) (ks : ClassId) (kx : ClassId) (j : Int32) (sm : UInt64) (Q : Option Value → Heap → Prop) (h0 hc : Heap) (n0 : Nat) (Z0 : n0 ≤ hc.size) (XB : Ext h0 hc) (E_o : Exa Z hc o "com/example/sieve_for_links/sieveforlinks/VirtualLinks") (F_shares : Fld Z hc o "com/example/sieve_for_links/sieveforlinks/VirtualLinks" "shares" "[D" (.ref shA)) (F_members : Fld Z hc o "com/example/sieve_for_links/sieveforlinks/VirtualLinks" "members" "[I" (.ref mA)) (F_memberStarts : Fld Z hc o "com/example/sieve_for_links/sieveforlinks/VirtualLinks" "memberStarts" "[I" (.ref sA)) (B_sA : Arv Z hc sA k1 .int (5 : Int32) ((own_SL g0 g1 g2 g3).map Value.int) (.int (0 : Int32))) (B_mA : Arv Z hc mA k2 .int (own_T g0 g1 g2 g3) ((own_ML g0 g1 g2 g3).map Value.int) (.int (0 : Int32))) (A_shA : Arv Z hc shA ks .double (4 : Int32) [(.double s0), (.double s1), (.double s2), (.double s3)] (.double (0 : UInt64))) (A_q0 : Arv Z hc q0 kx .double (4 : Int32) [(.double x0), (.double x1), (.double x2), (.double x3)] (.double (0 : UInt64))) (hg0 : own_G g0) (hg1 : own_G g1) (hg2 : own_G g2) (hg3 : own_G g3) (hM : ∀ i, Mag64 1024 ([s0, s1, s2, s3].getD i 0)) (hX : ∀ i, Mag64 1056 ([x0, x1, x2, x3].getD i 0)) (h0j : 0 ≤ j.toInt) (hj : j.toInt + 1 = ((own_SL g0 g1 g2 g3).getD 3 0).toInt) (hs : NoNaN64 sm) (kt : GoB6 l Z n0 Q hc 0 0 74 #[.val (.ref o), .val (.ref q0), .val (.ref q1), .val (.int (2 : Int32)), .val (.double (own_fold [s0, s1, s2, s3] [x0, x1, x2, x3] (own_ML g0 g1 g2 g3) 1 j sm)), .second, .val (.int (own_jn 1 j))] []) :
    GoB6 l Z n0 Q hc 0 0 28 #[.val (.ref o), .val (.ref q0), .val (.ref q1), .val (.int (2 : Int32)), .val (.double sm), .second, .val (.int j)] [] := by
  refine OwnW.iload (pc' := 30) d6_28 rfl rfl ?_
  refine OwnW.aloadN (pc' := 31) d6_30 rfl (rfl) rfl ?_
  refine OwnW.getF (a0 := a0) (pc' := 34) d6_31 (host := "") (Or.inl (hw _ (List.mem_of_getElem? (i := 33) rfl))) Via.refl F_memberStarts rfl ?_
  refine OwnW.iloadN (pc' := 35) d6_34 rfl rfl ?_
  refine OwnW.iconst (pc' := 36) (v := (1 : Int32)) d6_35 rfl rfl ?_
  refine OwnW.iadd (pc' := 37) d6_36 rfl ?_
  show GoB6 l Z n0 Q hc 0 0 37 #[.val (.ref o), .val (.ref q0), .val (.ref q1), .val (.int (2 : Int32)), .val (.double sm), .second, .val (.int j)] [(.int (3 : Int32)), (.ref sA), (.int j)]
  obtain ⟨cl1, Ar1, qk1, Sz1, Mn1, Hv1, Gf1⟩ := id B_sA
  refine OwnW.iaload (pc' := 38) (v := .int ((own_SL g0 g1 g2 g3).getD 3 0)) d6_37 Ar1 (inb_of Sz1 ⟨by decide, by decide⟩) (Hv1.at (inb_of Sz1 ⟨by decide, by decide⟩) (own_gd (own_SL g0 g1 g2 g3) 3)) rfl ?_
  show GoB6 l Z n0 Q hc 0 0 38 #[.val (.ref o), .val (.ref q0), .val (.ref q1), .val (.int (2 : Int32)), .val (.double sm), .second, .val (.int j)] [(.int ((own_SL g0 g1 g2 g3).getD 3 0)), (.int j)]
  refine OwnW.icmpN (pc' := 41) d6_38 (tlt (own_lt hj)).2.1 rfl ?_
  refine OwnW.dload (pc' := 43) d6_41 rfl rfl ?_
  refine OwnW.aloadN (pc' := 44) d6_43 rfl (rfl) rfl ?_
  refine OwnW.getF (a0 := a0) (pc' := 47) d6_44 (host := "") (Or.inl (hw _ (List.mem_of_getElem? (i := 29) rfl))) Via.refl F_shares rfl ?_
  refine OwnW.aloadN (pc' := 48) d6_47 rfl (rfl) rfl ?_
  refine OwnW.getF (a0 := a0) (pc' := 51) d6_48 (host := "") (Or.inl (hw _ (List.mem_of_getElem? (i := 31) rfl))) Via.refl F_members rfl ?_
  refine OwnW.iload (pc' := 53) d6_51 rfl rfl ?_
  obtain ⟨cl2, Ar2, qk2, Sz2, Mn2, Hv2, Gf2⟩ := id B_mA
  refine OwnW.iaload (pc' := 54) (v := .int ((own_ML g0 g1 g2 g3).getD j.toNatClampNeg 0)) d6_53 Ar2 (inb_of Sz2 (own_jT2 hg0 hg1 hg2 hg3 h0j hj)) (Hv2.at (inb_of Sz2 (own_jT2 hg0 hg1 hg2 hg3 h0j hj)) (own_gd (own_ML g0 g1 g2 g3) j.toNatClampNeg)) rfl ?_
  show GoB6 l Z n0 Q hc 0 0 54 #[.val (.ref o), .val (.ref q0), .val (.ref q1), .val (.int (2 : Int32)), .val (.double sm), .second, .val (.int j)] [(.int ((own_ML g0 g1 g2 g3).getD j.toNatClampNeg 0)), (.ref shA), (.double sm)]
  obtain ⟨cl3, Ar3, qk3, Sz3, Mn3, Hv3, Gf3⟩ := id A_shA
  refine OwnW.daload (pc' := 55) (v := .double ([s0, s1, s2, s3].getD ((own_ML g0 g1 g2 g3).getD j.toNatClampNeg 0).toNatClampNeg 0)) d6_54 Ar3 (inb_of Sz3 (own_q hg0 hg1 hg2 hg3 _)) (Hv3.at (inb_of Sz3 (own_q hg0 hg1 hg2 hg3 _)) (own_gdD [s0, s1, s2, s3] ((own_ML g0 g1 g2 g3).getD j.toNatClampNeg 0).toNatClampNeg)) rfl ?_
  show GoB6 l Z n0 Q hc 0 0 55 #[.val (.ref o), .val (.ref q0), .val (.ref q1), .val (.int (2 : Int32)), .val (.double sm), .second, .val (.int j)] [(.double ([s0, s1, s2, s3].getD ((own_ML g0 g1 g2 g3).getD j.toNatClampNeg 0).toNatClampNeg 0)), (.double sm)]
  refine OwnW.aloadN (pc' := 56) d6_55 rfl (rfl) rfl ?_
  refine OwnW.aloadN (pc' := 57) d6_56 rfl (rfl) rfl ?_
  refine OwnW.getF (a0 := a0) (pc' := 60) d6_57 (host := "") (Or.inl (hw _ (List.mem_of_getElem? (i := 31) rfl))) Via.refl F_members rfl ?_
  refine OwnW.iload (pc' := 62) d6_60 rfl rfl ?_
  obtain ⟨cl4, Ar4, qk4, Sz4, Mn4, Hv4, Gf4⟩ := id B_mA
  refine OwnW.iaload (pc' := 63) (v := .int ((own_ML g0 g1 g2 g3).getD j.toNatClampNeg 0)) d6_62 Ar4 (inb_of Sz4 (own_jT2 hg0 hg1 hg2 hg3 h0j hj)) (Hv4.at (inb_of Sz4 (own_jT2 hg0 hg1 hg2 hg3 h0j hj)) (own_gd (own_ML g0 g1 g2 g3) j.toNatClampNeg)) rfl ?_
  show GoB6 l Z n0 Q hc 0 0 63 #[.val (.ref o), .val (.ref q0), .val (.ref q1), .val (.int (2 : Int32)), .val (.double sm), .second, .val (.int j)] [(.int ((own_ML g0 g1 g2 g3).getD j.toNatClampNeg 0)), (.ref q0), (.double ([s0, s1, s2, s3].getD ((own_ML g0 g1 g2 g3).getD j.toNatClampNeg 0).toNatClampNeg 0)), (.double sm)]
  obtain ⟨cl5, Ar5, qk5, Sz5, Mn5, Hv5, Gf5⟩ := id A_q0
  refine OwnW.daload (pc' := 64) (v := .double ([x0, x1, x2, x3].getD ((own_ML g0 g1 g2 g3).getD j.toNatClampNeg 0).toNatClampNeg 0)) d6_63 Ar5 (inb_of Sz5 (own_q hg0 hg1 hg2 hg3 _)) (Hv5.at (inb_of Sz5 (own_q hg0 hg1 hg2 hg3 _)) (own_gdD [x0, x1, x2, x3] ((own_ML g0 g1 g2 g3).getD j.toNatClampNeg 0).toNatClampNeg)) rfl ?_
  show GoB6 l Z n0 Q hc 0 0 64 #[.val (.ref o), .val (.ref q0), .val (.ref q1), .val (.int (2 : Int32)), .val (.double sm), .second, .val (.int j)] [(.double ([x0, x1, x2, x3].getD ((own_ML g0 g1 g2 g3).getD j.toNatClampNeg 0).toNatClampNeg 0)), (.double ([s0, s1, s2, s3].getD ((own_ML g0 g1 g2 g3).getD j.toNatClampNeg 0).toNatClampNeg 0)), (.double sm)]
  refine OwnW.dmul (pc' := 65) d6_64 (dmul_out ((hM _).fin (by decide)) ((hX _).fin (by decide))) rfl rfl ?_
  refine OwnW.dadd (pc' := 66) d6_65 (dadd_out hs ((dmul_mag (hM _) (hX _) (by decide) (by decide)).fin (by decide))) rfl rfl ?_
  refine OwnW.dstore (pc' := 68) (L' := #[.val (.ref o), .val (.ref q0), .val (.ref q1), .val (.int (2 : Int32)), .val (.double (FP.dadd sm (FP.dmul ([s0, s1, s2, s3].getD ((own_ML g0 g1 g2 g3).getD j.toNatClampNeg 0).toNatClampNeg 0) ([x0, x1, x2, x3].getD ((own_ML g0 g1 g2 g3).getD j.toNatClampNeg 0).toNatClampNeg 0)))), .second, .val (.int j)]) d6_66 rfl rfl ?_
  refine OwnW.iinc (pc' := 71) (L' := #[.val (.ref o), .val (.ref q0), .val (.ref q1), .val (.int (2 : Int32)), .val (.double (FP.dadd sm (FP.dmul ([s0, s1, s2, s3].getD ((own_ML g0 g1 g2 g3).getD j.toNatClampNeg 0).toNatClampNeg 0) ([x0, x1, x2, x3].getD ((own_ML g0 g1 g2 g3).getD j.toNatClampNeg 0).toNatClampNeg 0)))), .second, .val (.int (j + (1 : Int32)))]) (d := (1 : Int32)) d6_68 rfl rfl rfl rfl ?_
  refine OwnW.goto (pc' := 28) d6_71 (by decide) (by decide) ?_
  exact inn2_0 l Z a0 hw o q0 q1 g0 g1 g2 g3 s0 s1 s2 s3 x0 x1 x2 x3 shA mA sA k1 k2 ks kx (j + (1 : Int32)) (FP.dadd sm (FP.dmul ([s0, s1, s2, s3].getD ((own_ML g0 g1 g2 g3).getD j.toNatClampNeg 0).toNatClampNeg 0) ([x0, x1, x2, x3].getD ((own_ML g0 g1 g2 g3).getD j.toNatClampNeg 0).toNatClampNeg 0))) Q h0 hc n0 Z0 XB E_o F_shares F_members F_memberStarts B_sA B_mA A_shA A_q0 hg0 hg1 hg2 hg3 hM hX (own_j0 h0j hj) (own_j1 h0j hj) (dadd_out hs ((dmul_mag (hM _) (hX _) (by decide) (by decide)).fin (by decide))) kt
set_option maxRecDepth 65536 in
set_option maxHeartbeats 400000000 in
theorem inn2_2 (l : Launch) (Z : State) (a0 : Array Value) (hw : ∀ d ∈ tables_1, d.before a0 Z = true) (o : Addr) (q0 : Addr) (q1 : Addr) (g0 : Int32) (g1 : Int32) (g2 : Int32) (g3 : Int32) (s0 : UInt64) (s1 : UInt64) (s2 : UInt64) (s3 : UInt64) (x0 : UInt64) (x1 : UInt64) (x2 : UInt64) (x3 : UInt64) (shA : Addr) (mA : Addr) (sA : Addr) (k1 : ClassId) (k2 : ClassId) (ks : ClassId) (kx : ClassId) (j : Int32) (sm : UInt64) (Q : Option Value → Heap → Prop) (h0 hc : Heap) (n0 : Nat) (Z0 : n0 ≤ hc.size) (XB : Ext h0 hc) (E_o : Exa Z hc o "com/example/sieve_for_links/sieveforlinks/VirtualLinks") (F_shares : Fld Z hc o "com/example/sieve_for_links/sieveforlinks/VirtualLinks" "shares" "[D" (.ref shA)) (F_members : Fld Z hc o "com/example/sieve_for_links/sieveforlinks/VirtualLinks" "members" "[I" (.ref mA)) (F_memberStarts : Fld Z hc o "com/example/sieve_for_links/sieveforlinks/VirtualLinks" "memberStarts" "[I" (.ref sA)) (B_sA : Arv Z hc sA k1 .int (5 : Int32) ((own_SL g0 g1 g2 g3).map Value.int) (.int (0 : Int32))) (B_mA : Arv Z hc mA k2 .int (own_T g0 g1 g2 g3) ((own_ML g0 g1 g2 g3).map Value.int) (.int (0 : Int32))) (A_shA : Arv Z hc shA ks .double (4 : Int32) [(.double s0), (.double s1), (.double s2), (.double s3)] (.double (0 : UInt64))) (A_q0 : Arv Z hc q0 kx .double (4 : Int32) [(.double x0), (.double x1), (.double x2), (.double x3)] (.double (0 : UInt64))) (hg0 : own_G g0) (hg1 : own_G g1) (hg2 : own_G g2) (hg3 : own_G g3) (hM : ∀ i, Mag64 1024 ([s0, s1, s2, s3].getD i 0)) (hX : ∀ i, Mag64 1056 ([x0, x1, x2, x3].getD i 0)) (h0j : 0 ≤ j.toInt) (hj : j.toInt + 2 = ((own_SL g0 g1 g2 g3).getD 3 0).toInt) (hs : NoNaN64 sm) (kt : GoB6 l Z n0 Q hc 0 0 74 #[.val (.ref o), .val (.ref q0), .val (.ref q1), .val (.int (2 : Int32)), .val (.double (own_fold [s0, s1, s2, s3] [x0, x1, x2, x3] (own_ML g0 g1 g2 g3) 2 j sm)), .second, .val (.int (own_jn 2 j))] []) :
    GoB6 l Z n0 Q hc 0 0 28 #[.val (.ref o), .val (.ref q0), .val (.ref q1), .val (.int (2 : Int32)), .val (.double sm), .second, .val (.int j)] [] := by
  refine OwnW.iload (pc' := 30) d6_28 rfl rfl ?_
  refine OwnW.aloadN (pc' := 31) d6_30 rfl (rfl) rfl ?_
  refine OwnW.getF (a0 := a0) (pc' := 34) d6_31 (host := "") (Or.inl (hw _ (List.mem_of_getElem? (i := 33) rfl))) Via.refl F_memberStarts rfl ?_
  refine OwnW.iloadN (pc' := 35) d6_34 rfl rfl ?_
  refine OwnW.iconst (pc' := 36) (v := (1 : Int32)) d6_35 rfl rfl ?_
  refine OwnW.iadd (pc' := 37) d6_36 rfl ?_
  show GoB6 l Z n0 Q hc 0 0 37 #[.val (.ref o), .val (.ref q0), .val (.ref q1), .val (.int (2 : Int32)), .val (.double sm), .second, .val (.int j)] [(.int (3 : Int32)), (.ref sA), (.int j)]
  obtain ⟨cl1, Ar1, qk1, Sz1, Mn1, Hv1, Gf1⟩ := id B_sA
  refine OwnW.iaload (pc' := 38) (v := .int ((own_SL g0 g1 g2 g3).getD 3 0)) d6_37 Ar1 (inb_of Sz1 ⟨by decide, by decide⟩) (Hv1.at (inb_of Sz1 ⟨by decide, by decide⟩) (own_gd (own_SL g0 g1 g2 g3) 3)) rfl ?_
  show GoB6 l Z n0 Q hc 0 0 38 #[.val (.ref o), .val (.ref q0), .val (.ref q1), .val (.int (2 : Int32)), .val (.double sm), .second, .val (.int j)] [(.int ((own_SL g0 g1 g2 g3).getD 3 0)), (.int j)]
  refine OwnW.icmpN (pc' := 41) d6_38 (tlt (own_lt hj)).2.1 rfl ?_
  refine OwnW.dload (pc' := 43) d6_41 rfl rfl ?_
  refine OwnW.aloadN (pc' := 44) d6_43 rfl (rfl) rfl ?_
  refine OwnW.getF (a0 := a0) (pc' := 47) d6_44 (host := "") (Or.inl (hw _ (List.mem_of_getElem? (i := 29) rfl))) Via.refl F_shares rfl ?_
  refine OwnW.aloadN (pc' := 48) d6_47 rfl (rfl) rfl ?_
  refine OwnW.getF (a0 := a0) (pc' := 51) d6_48 (host := "") (Or.inl (hw _ (List.mem_of_getElem? (i := 31) rfl))) Via.refl F_members rfl ?_
  refine OwnW.iload (pc' := 53) d6_51 rfl rfl ?_
  obtain ⟨cl2, Ar2, qk2, Sz2, Mn2, Hv2, Gf2⟩ := id B_mA
  refine OwnW.iaload (pc' := 54) (v := .int ((own_ML g0 g1 g2 g3).getD j.toNatClampNeg 0)) d6_53 Ar2 (inb_of Sz2 (own_jT2 hg0 hg1 hg2 hg3 h0j hj)) (Hv2.at (inb_of Sz2 (own_jT2 hg0 hg1 hg2 hg3 h0j hj)) (own_gd (own_ML g0 g1 g2 g3) j.toNatClampNeg)) rfl ?_
  show GoB6 l Z n0 Q hc 0 0 54 #[.val (.ref o), .val (.ref q0), .val (.ref q1), .val (.int (2 : Int32)), .val (.double sm), .second, .val (.int j)] [(.int ((own_ML g0 g1 g2 g3).getD j.toNatClampNeg 0)), (.ref shA), (.double sm)]
  obtain ⟨cl3, Ar3, qk3, Sz3, Mn3, Hv3, Gf3⟩ := id A_shA
  refine OwnW.daload (pc' := 55) (v := .double ([s0, s1, s2, s3].getD ((own_ML g0 g1 g2 g3).getD j.toNatClampNeg 0).toNatClampNeg 0)) d6_54 Ar3 (inb_of Sz3 (own_q hg0 hg1 hg2 hg3 _)) (Hv3.at (inb_of Sz3 (own_q hg0 hg1 hg2 hg3 _)) (own_gdD [s0, s1, s2, s3] ((own_ML g0 g1 g2 g3).getD j.toNatClampNeg 0).toNatClampNeg)) rfl ?_
  show GoB6 l Z n0 Q hc 0 0 55 #[.val (.ref o), .val (.ref q0), .val (.ref q1), .val (.int (2 : Int32)), .val (.double sm), .second, .val (.int j)] [(.double ([s0, s1, s2, s3].getD ((own_ML g0 g1 g2 g3).getD j.toNatClampNeg 0).toNatClampNeg 0)), (.double sm)]
  refine OwnW.aloadN (pc' := 56) d6_55 rfl (rfl) rfl ?_
  refine OwnW.aloadN (pc' := 57) d6_56 rfl (rfl) rfl ?_
  refine OwnW.getF (a0 := a0) (pc' := 60) d6_57 (host := "") (Or.inl (hw _ (List.mem_of_getElem? (i := 31) rfl))) Via.refl F_members rfl ?_
  refine OwnW.iload (pc' := 62) d6_60 rfl rfl ?_
  obtain ⟨cl4, Ar4, qk4, Sz4, Mn4, Hv4, Gf4⟩ := id B_mA
  refine OwnW.iaload (pc' := 63) (v := .int ((own_ML g0 g1 g2 g3).getD j.toNatClampNeg 0)) d6_62 Ar4 (inb_of Sz4 (own_jT2 hg0 hg1 hg2 hg3 h0j hj)) (Hv4.at (inb_of Sz4 (own_jT2 hg0 hg1 hg2 hg3 h0j hj)) (own_gd (own_ML g0 g1 g2 g3) j.toNatClampNeg)) rfl ?_
  show GoB6 l Z n0 Q hc 0 0 63 #[.val (.ref o), .val (.ref q0), .val (.ref q1), .val (.int (2 : Int32)), .val (.double sm), .second, .val (.int j)] [(.int ((own_ML g0 g1 g2 g3).getD j.toNatClampNeg 0)), (.ref q0), (.double ([s0, s1, s2, s3].getD ((own_ML g0 g1 g2 g3).getD j.toNatClampNeg 0).toNatClampNeg 0)), (.double sm)]
  obtain ⟨cl5, Ar5, qk5, Sz5, Mn5, Hv5, Gf5⟩ := id A_q0
  refine OwnW.daload (pc' := 64) (v := .double ([x0, x1, x2, x3].getD ((own_ML g0 g1 g2 g3).getD j.toNatClampNeg 0).toNatClampNeg 0)) d6_63 Ar5 (inb_of Sz5 (own_q hg0 hg1 hg2 hg3 _)) (Hv5.at (inb_of Sz5 (own_q hg0 hg1 hg2 hg3 _)) (own_gdD [x0, x1, x2, x3] ((own_ML g0 g1 g2 g3).getD j.toNatClampNeg 0).toNatClampNeg)) rfl ?_
  show GoB6 l Z n0 Q hc 0 0 64 #[.val (.ref o), .val (.ref q0), .val (.ref q1), .val (.int (2 : Int32)), .val (.double sm), .second, .val (.int j)] [(.double ([x0, x1, x2, x3].getD ((own_ML g0 g1 g2 g3).getD j.toNatClampNeg 0).toNatClampNeg 0)), (.double ([s0, s1, s2, s3].getD ((own_ML g0 g1 g2 g3).getD j.toNatClampNeg 0).toNatClampNeg 0)), (.double sm)]
  refine OwnW.dmul (pc' := 65) d6_64 (dmul_out ((hM _).fin (by decide)) ((hX _).fin (by decide))) rfl rfl ?_
  refine OwnW.dadd (pc' := 66) d6_65 (dadd_out hs ((dmul_mag (hM _) (hX _) (by decide) (by decide)).fin (by decide))) rfl rfl ?_
  refine OwnW.dstore (pc' := 68) (L' := #[.val (.ref o), .val (.ref q0), .val (.ref q1), .val (.int (2 : Int32)), .val (.double (FP.dadd sm (FP.dmul ([s0, s1, s2, s3].getD ((own_ML g0 g1 g2 g3).getD j.toNatClampNeg 0).toNatClampNeg 0) ([x0, x1, x2, x3].getD ((own_ML g0 g1 g2 g3).getD j.toNatClampNeg 0).toNatClampNeg 0)))), .second, .val (.int j)]) d6_66 rfl rfl ?_
  refine OwnW.iinc (pc' := 71) (L' := #[.val (.ref o), .val (.ref q0), .val (.ref q1), .val (.int (2 : Int32)), .val (.double (FP.dadd sm (FP.dmul ([s0, s1, s2, s3].getD ((own_ML g0 g1 g2 g3).getD j.toNatClampNeg 0).toNatClampNeg 0) ([x0, x1, x2, x3].getD ((own_ML g0 g1 g2 g3).getD j.toNatClampNeg 0).toNatClampNeg 0)))), .second, .val (.int (j + (1 : Int32)))]) (d := (1 : Int32)) d6_68 rfl rfl rfl rfl ?_
  refine OwnW.goto (pc' := 28) d6_71 (by decide) (by decide) ?_
  exact inn2_1 l Z a0 hw o q0 q1 g0 g1 g2 g3 s0 s1 s2 s3 x0 x1 x2 x3 shA mA sA k1 k2 ks kx (j + (1 : Int32)) (FP.dadd sm (FP.dmul ([s0, s1, s2, s3].getD ((own_ML g0 g1 g2 g3).getD j.toNatClampNeg 0).toNatClampNeg 0) ([x0, x1, x2, x3].getD ((own_ML g0 g1 g2 g3).getD j.toNatClampNeg 0).toNatClampNeg 0))) Q h0 hc n0 Z0 XB E_o F_shares F_members F_memberStarts B_sA B_mA A_shA A_q0 hg0 hg1 hg2 hg3 hM hX (own_j0 h0j hj) (own_j1 h0j hj) (dadd_out hs ((dmul_mag (hM _) (hX _) (by decide) (by decide)).fin (by decide))) kt
set_option maxRecDepth 65536 in
set_option maxHeartbeats 400000000 in
theorem inn2_3 (l : Launch) (Z : State) (a0 : Array Value) (hw : ∀ d ∈ tables_1, d.before a0 Z = true) (o : Addr) (q0 : Addr) (q1 : Addr) (g0 : Int32) (g1 : Int32) (g2 : Int32) (g3 : Int32) (s0 : UInt64) (s1 : UInt64) (s2 : UInt64) (s3 : UInt64) (x0 : UInt64) (x1 : UInt64) (x2 : UInt64) (x3 : UInt64) (shA : Addr) (mA : Addr) (sA : Addr) (k1 : ClassId) (k2 : ClassId) (ks : ClassId) (kx : ClassId) (j : Int32) (sm : UInt64) (Q : Option Value → Heap → Prop) (h0 hc : Heap) (n0 : Nat) (Z0 : n0 ≤ hc.size) (XB : Ext h0 hc) (E_o : Exa Z hc o "com/example/sieve_for_links/sieveforlinks/VirtualLinks") (F_shares : Fld Z hc o "com/example/sieve_for_links/sieveforlinks/VirtualLinks" "shares" "[D" (.ref shA)) (F_members : Fld Z hc o "com/example/sieve_for_links/sieveforlinks/VirtualLinks" "members" "[I" (.ref mA)) (F_memberStarts : Fld Z hc o "com/example/sieve_for_links/sieveforlinks/VirtualLinks" "memberStarts" "[I" (.ref sA)) (B_sA : Arv Z hc sA k1 .int (5 : Int32) ((own_SL g0 g1 g2 g3).map Value.int) (.int (0 : Int32))) (B_mA : Arv Z hc mA k2 .int (own_T g0 g1 g2 g3) ((own_ML g0 g1 g2 g3).map Value.int) (.int (0 : Int32))) (A_shA : Arv Z hc shA ks .double (4 : Int32) [(.double s0), (.double s1), (.double s2), (.double s3)] (.double (0 : UInt64))) (A_q0 : Arv Z hc q0 kx .double (4 : Int32) [(.double x0), (.double x1), (.double x2), (.double x3)] (.double (0 : UInt64))) (hg0 : own_G g0) (hg1 : own_G g1) (hg2 : own_G g2) (hg3 : own_G g3) (hM : ∀ i, Mag64 1024 ([s0, s1, s2, s3].getD i 0)) (hX : ∀ i, Mag64 1056 ([x0, x1, x2, x3].getD i 0)) (h0j : 0 ≤ j.toInt) (hj : j.toInt + 3 = ((own_SL g0 g1 g2 g3).getD 3 0).toInt) (hs : NoNaN64 sm) (kt : GoB6 l Z n0 Q hc 0 0 74 #[.val (.ref o), .val (.ref q0), .val (.ref q1), .val (.int (2 : Int32)), .val (.double (own_fold [s0, s1, s2, s3] [x0, x1, x2, x3] (own_ML g0 g1 g2 g3) 3 j sm)), .second, .val (.int (own_jn 3 j))] []) :
    GoB6 l Z n0 Q hc 0 0 28 #[.val (.ref o), .val (.ref q0), .val (.ref q1), .val (.int (2 : Int32)), .val (.double sm), .second, .val (.int j)] [] := by
  refine OwnW.iload (pc' := 30) d6_28 rfl rfl ?_
  refine OwnW.aloadN (pc' := 31) d6_30 rfl (rfl) rfl ?_
  refine OwnW.getF (a0 := a0) (pc' := 34) d6_31 (host := "") (Or.inl (hw _ (List.mem_of_getElem? (i := 33) rfl))) Via.refl F_memberStarts rfl ?_
  refine OwnW.iloadN (pc' := 35) d6_34 rfl rfl ?_
  refine OwnW.iconst (pc' := 36) (v := (1 : Int32)) d6_35 rfl rfl ?_
  refine OwnW.iadd (pc' := 37) d6_36 rfl ?_
  show GoB6 l Z n0 Q hc 0 0 37 #[.val (.ref o), .val (.ref q0), .val (.ref q1), .val (.int (2 : Int32)), .val (.double sm), .second, .val (.int j)] [(.int (3 : Int32)), (.ref sA), (.int j)]
  obtain ⟨cl1, Ar1, qk1, Sz1, Mn1, Hv1, Gf1⟩ := id B_sA
  refine OwnW.iaload (pc' := 38) (v := .int ((own_SL g0 g1 g2 g3).getD 3 0)) d6_37 Ar1 (inb_of Sz1 ⟨by decide, by decide⟩) (Hv1.at (inb_of Sz1 ⟨by decide, by decide⟩) (own_gd (own_SL g0 g1 g2 g3) 3)) rfl ?_
  show GoB6 l Z n0 Q hc 0 0 38 #[.val (.ref o), .val (.ref q0), .val (.ref q1), .val (.int (2 : Int32)), .val (.double sm), .second, .val (.int j)] [(.int ((own_SL g0 g1 g2 g3).getD 3 0)), (.int j)]
  refine OwnW.icmpN (pc' := 41) d6_38 (tlt (own_lt hj)).2.1 rfl ?_
  refine OwnW.dload (pc' := 43) d6_41 rfl rfl ?_
  refine OwnW.aloadN (pc' := 44) d6_43 rfl (rfl) rfl ?_
  refine OwnW.getF (a0 := a0) (pc' := 47) d6_44 (host := "") (Or.inl (hw _ (List.mem_of_getElem? (i := 29) rfl))) Via.refl F_shares rfl ?_
  refine OwnW.aloadN (pc' := 48) d6_47 rfl (rfl) rfl ?_
  refine OwnW.getF (a0 := a0) (pc' := 51) d6_48 (host := "") (Or.inl (hw _ (List.mem_of_getElem? (i := 31) rfl))) Via.refl F_members rfl ?_
  refine OwnW.iload (pc' := 53) d6_51 rfl rfl ?_
  obtain ⟨cl2, Ar2, qk2, Sz2, Mn2, Hv2, Gf2⟩ := id B_mA
  refine OwnW.iaload (pc' := 54) (v := .int ((own_ML g0 g1 g2 g3).getD j.toNatClampNeg 0)) d6_53 Ar2 (inb_of Sz2 (own_jT2 hg0 hg1 hg2 hg3 h0j hj)) (Hv2.at (inb_of Sz2 (own_jT2 hg0 hg1 hg2 hg3 h0j hj)) (own_gd (own_ML g0 g1 g2 g3) j.toNatClampNeg)) rfl ?_
  show GoB6 l Z n0 Q hc 0 0 54 #[.val (.ref o), .val (.ref q0), .val (.ref q1), .val (.int (2 : Int32)), .val (.double sm), .second, .val (.int j)] [(.int ((own_ML g0 g1 g2 g3).getD j.toNatClampNeg 0)), (.ref shA), (.double sm)]
  obtain ⟨cl3, Ar3, qk3, Sz3, Mn3, Hv3, Gf3⟩ := id A_shA
  refine OwnW.daload (pc' := 55) (v := .double ([s0, s1, s2, s3].getD ((own_ML g0 g1 g2 g3).getD j.toNatClampNeg 0).toNatClampNeg 0)) d6_54 Ar3 (inb_of Sz3 (own_q hg0 hg1 hg2 hg3 _)) (Hv3.at (inb_of Sz3 (own_q hg0 hg1 hg2 hg3 _)) (own_gdD [s0, s1, s2, s3] ((own_ML g0 g1 g2 g3).getD j.toNatClampNeg 0).toNatClampNeg)) rfl ?_
  show GoB6 l Z n0 Q hc 0 0 55 #[.val (.ref o), .val (.ref q0), .val (.ref q1), .val (.int (2 : Int32)), .val (.double sm), .second, .val (.int j)] [(.double ([s0, s1, s2, s3].getD ((own_ML g0 g1 g2 g3).getD j.toNatClampNeg 0).toNatClampNeg 0)), (.double sm)]
  refine OwnW.aloadN (pc' := 56) d6_55 rfl (rfl) rfl ?_
  refine OwnW.aloadN (pc' := 57) d6_56 rfl (rfl) rfl ?_
  refine OwnW.getF (a0 := a0) (pc' := 60) d6_57 (host := "") (Or.inl (hw _ (List.mem_of_getElem? (i := 31) rfl))) Via.refl F_members rfl ?_
  refine OwnW.iload (pc' := 62) d6_60 rfl rfl ?_
  obtain ⟨cl4, Ar4, qk4, Sz4, Mn4, Hv4, Gf4⟩ := id B_mA
  refine OwnW.iaload (pc' := 63) (v := .int ((own_ML g0 g1 g2 g3).getD j.toNatClampNeg 0)) d6_62 Ar4 (inb_of Sz4 (own_jT2 hg0 hg1 hg2 hg3 h0j hj)) (Hv4.at (inb_of Sz4 (own_jT2 hg0 hg1 hg2 hg3 h0j hj)) (own_gd (own_ML g0 g1 g2 g3) j.toNatClampNeg)) rfl ?_
  show GoB6 l Z n0 Q hc 0 0 63 #[.val (.ref o), .val (.ref q0), .val (.ref q1), .val (.int (2 : Int32)), .val (.double sm), .second, .val (.int j)] [(.int ((own_ML g0 g1 g2 g3).getD j.toNatClampNeg 0)), (.ref q0), (.double ([s0, s1, s2, s3].getD ((own_ML g0 g1 g2 g3).getD j.toNatClampNeg 0).toNatClampNeg 0)), (.double sm)]
  obtain ⟨cl5, Ar5, qk5, Sz5, Mn5, Hv5, Gf5⟩ := id A_q0
  refine OwnW.daload (pc' := 64) (v := .double ([x0, x1, x2, x3].getD ((own_ML g0 g1 g2 g3).getD j.toNatClampNeg 0).toNatClampNeg 0)) d6_63 Ar5 (inb_of Sz5 (own_q hg0 hg1 hg2 hg3 _)) (Hv5.at (inb_of Sz5 (own_q hg0 hg1 hg2 hg3 _)) (own_gdD [x0, x1, x2, x3] ((own_ML g0 g1 g2 g3).getD j.toNatClampNeg 0).toNatClampNeg)) rfl ?_
  show GoB6 l Z n0 Q hc 0 0 64 #[.val (.ref o), .val (.ref q0), .val (.ref q1), .val (.int (2 : Int32)), .val (.double sm), .second, .val (.int j)] [(.double ([x0, x1, x2, x3].getD ((own_ML g0 g1 g2 g3).getD j.toNatClampNeg 0).toNatClampNeg 0)), (.double ([s0, s1, s2, s3].getD ((own_ML g0 g1 g2 g3).getD j.toNatClampNeg 0).toNatClampNeg 0)), (.double sm)]
  refine OwnW.dmul (pc' := 65) d6_64 (dmul_out ((hM _).fin (by decide)) ((hX _).fin (by decide))) rfl rfl ?_
  refine OwnW.dadd (pc' := 66) d6_65 (dadd_out hs ((dmul_mag (hM _) (hX _) (by decide) (by decide)).fin (by decide))) rfl rfl ?_
  refine OwnW.dstore (pc' := 68) (L' := #[.val (.ref o), .val (.ref q0), .val (.ref q1), .val (.int (2 : Int32)), .val (.double (FP.dadd sm (FP.dmul ([s0, s1, s2, s3].getD ((own_ML g0 g1 g2 g3).getD j.toNatClampNeg 0).toNatClampNeg 0) ([x0, x1, x2, x3].getD ((own_ML g0 g1 g2 g3).getD j.toNatClampNeg 0).toNatClampNeg 0)))), .second, .val (.int j)]) d6_66 rfl rfl ?_
  refine OwnW.iinc (pc' := 71) (L' := #[.val (.ref o), .val (.ref q0), .val (.ref q1), .val (.int (2 : Int32)), .val (.double (FP.dadd sm (FP.dmul ([s0, s1, s2, s3].getD ((own_ML g0 g1 g2 g3).getD j.toNatClampNeg 0).toNatClampNeg 0) ([x0, x1, x2, x3].getD ((own_ML g0 g1 g2 g3).getD j.toNatClampNeg 0).toNatClampNeg 0)))), .second, .val (.int (j + (1 : Int32)))]) (d := (1 : Int32)) d6_68 rfl rfl rfl rfl ?_
  refine OwnW.goto (pc' := 28) d6_71 (by decide) (by decide) ?_
  exact inn2_2 l Z a0 hw o q0 q1 g0 g1 g2 g3 s0 s1 s2 s3 x0 x1 x2 x3 shA mA sA k1 k2 ks kx (j + (1 : Int32)) (FP.dadd sm (FP.dmul ([s0, s1, s2, s3].getD ((own_ML g0 g1 g2 g3).getD j.toNatClampNeg 0).toNatClampNeg 0) ([x0, x1, x2, x3].getD ((own_ML g0 g1 g2 g3).getD j.toNatClampNeg 0).toNatClampNeg 0))) Q h0 hc n0 Z0 XB E_o F_shares F_members F_memberStarts B_sA B_mA A_shA A_q0 hg0 hg1 hg2 hg3 hM hX (own_j0 h0j hj) (own_j1 h0j hj) (dadd_out hs ((dmul_mag (hM _) (hX _) (by decide) (by decide)).fin (by decide))) kt
set_option maxRecDepth 65536 in
set_option maxHeartbeats 400000000 in
theorem inn2_4 (l : Launch) (Z : State) (a0 : Array Value) (hw : ∀ d ∈ tables_1, d.before a0 Z = true) (o : Addr) (q0 : Addr) (q1 : Addr) (g0 : Int32) (g1 : Int32) (g2 : Int32) (g3 : Int32) (s0 : UInt64) (s1 : UInt64) (s2 : UInt64) (s3 : UInt64) (x0 : UInt64) (x1 : UInt64) (x2 : UInt64) (x3 : UInt64) (shA : Addr) (mA : Addr) (sA : Addr) (k1 : ClassId) (k2 : ClassId) (ks : ClassId) (kx : ClassId) (j : Int32) (sm : UInt64) (Q : Option Value → Heap → Prop) (h0 hc : Heap) (n0 : Nat) (Z0 : n0 ≤ hc.size) (XB : Ext h0 hc) (E_o : Exa Z hc o "com/example/sieve_for_links/sieveforlinks/VirtualLinks") (F_shares : Fld Z hc o "com/example/sieve_for_links/sieveforlinks/VirtualLinks" "shares" "[D" (.ref shA)) (F_members : Fld Z hc o "com/example/sieve_for_links/sieveforlinks/VirtualLinks" "members" "[I" (.ref mA)) (F_memberStarts : Fld Z hc o "com/example/sieve_for_links/sieveforlinks/VirtualLinks" "memberStarts" "[I" (.ref sA)) (B_sA : Arv Z hc sA k1 .int (5 : Int32) ((own_SL g0 g1 g2 g3).map Value.int) (.int (0 : Int32))) (B_mA : Arv Z hc mA k2 .int (own_T g0 g1 g2 g3) ((own_ML g0 g1 g2 g3).map Value.int) (.int (0 : Int32))) (A_shA : Arv Z hc shA ks .double (4 : Int32) [(.double s0), (.double s1), (.double s2), (.double s3)] (.double (0 : UInt64))) (A_q0 : Arv Z hc q0 kx .double (4 : Int32) [(.double x0), (.double x1), (.double x2), (.double x3)] (.double (0 : UInt64))) (hg0 : own_G g0) (hg1 : own_G g1) (hg2 : own_G g2) (hg3 : own_G g3) (hM : ∀ i, Mag64 1024 ([s0, s1, s2, s3].getD i 0)) (hX : ∀ i, Mag64 1056 ([x0, x1, x2, x3].getD i 0)) (h0j : 0 ≤ j.toInt) (hj : j.toInt + 4 = ((own_SL g0 g1 g2 g3).getD 3 0).toInt) (hs : NoNaN64 sm) (kt : GoB6 l Z n0 Q hc 0 0 74 #[.val (.ref o), .val (.ref q0), .val (.ref q1), .val (.int (2 : Int32)), .val (.double (own_fold [s0, s1, s2, s3] [x0, x1, x2, x3] (own_ML g0 g1 g2 g3) 4 j sm)), .second, .val (.int (own_jn 4 j))] []) :
    GoB6 l Z n0 Q hc 0 0 28 #[.val (.ref o), .val (.ref q0), .val (.ref q1), .val (.int (2 : Int32)), .val (.double sm), .second, .val (.int j)] [] := by
  refine OwnW.iload (pc' := 30) d6_28 rfl rfl ?_
  refine OwnW.aloadN (pc' := 31) d6_30 rfl (rfl) rfl ?_
  refine OwnW.getF (a0 := a0) (pc' := 34) d6_31 (host := "") (Or.inl (hw _ (List.mem_of_getElem? (i := 33) rfl))) Via.refl F_memberStarts rfl ?_
  refine OwnW.iloadN (pc' := 35) d6_34 rfl rfl ?_
  refine OwnW.iconst (pc' := 36) (v := (1 : Int32)) d6_35 rfl rfl ?_
  refine OwnW.iadd (pc' := 37) d6_36 rfl ?_
  show GoB6 l Z n0 Q hc 0 0 37 #[.val (.ref o), .val (.ref q0), .val (.ref q1), .val (.int (2 : Int32)), .val (.double sm), .second, .val (.int j)] [(.int (3 : Int32)), (.ref sA), (.int j)]
  obtain ⟨cl1, Ar1, qk1, Sz1, Mn1, Hv1, Gf1⟩ := id B_sA
  refine OwnW.iaload (pc' := 38) (v := .int ((own_SL g0 g1 g2 g3).getD 3 0)) d6_37 Ar1 (inb_of Sz1 ⟨by decide, by decide⟩) (Hv1.at (inb_of Sz1 ⟨by decide, by decide⟩) (own_gd (own_SL g0 g1 g2 g3) 3)) rfl ?_
  show GoB6 l Z n0 Q hc 0 0 38 #[.val (.ref o), .val (.ref q0), .val (.ref q1), .val (.int (2 : Int32)), .val (.double sm), .second, .val (.int j)] [(.int ((own_SL g0 g1 g2 g3).getD 3 0)), (.int j)]
  refine OwnW.icmpN (pc' := 41) d6_38 (tlt (own_lt hj)).2.1 rfl ?_
  refine OwnW.dload (pc' := 43) d6_41 rfl rfl ?_
  refine OwnW.aloadN (pc' := 44) d6_43 rfl (rfl) rfl ?_
  refine OwnW.getF (a0 := a0) (pc' := 47) d6_44 (host := "") (Or.inl (hw _ (List.mem_of_getElem? (i := 29) rfl))) Via.refl F_shares rfl ?_
  refine OwnW.aloadN (pc' := 48) d6_47 rfl (rfl) rfl ?_
  refine OwnW.getF (a0 := a0) (pc' := 51) d6_48 (host := "") (Or.inl (hw _ (List.mem_of_getElem? (i := 31) rfl))) Via.refl F_members rfl ?_
  refine OwnW.iload (pc' := 53) d6_51 rfl rfl ?_
  obtain ⟨cl2, Ar2, qk2, Sz2, Mn2, Hv2, Gf2⟩ := id B_mA
  refine OwnW.iaload (pc' := 54) (v := .int ((own_ML g0 g1 g2 g3).getD j.toNatClampNeg 0)) d6_53 Ar2 (inb_of Sz2 (own_jT2 hg0 hg1 hg2 hg3 h0j hj)) (Hv2.at (inb_of Sz2 (own_jT2 hg0 hg1 hg2 hg3 h0j hj)) (own_gd (own_ML g0 g1 g2 g3) j.toNatClampNeg)) rfl ?_
  show GoB6 l Z n0 Q hc 0 0 54 #[.val (.ref o), .val (.ref q0), .val (.ref q1), .val (.int (2 : Int32)), .val (.double sm), .second, .val (.int j)] [(.int ((own_ML g0 g1 g2 g3).getD j.toNatClampNeg 0)), (.ref shA), (.double sm)]
  obtain ⟨cl3, Ar3, qk3, Sz3, Mn3, Hv3, Gf3⟩ := id A_shA
  refine OwnW.daload (pc' := 55) (v := .double ([s0, s1, s2, s3].getD ((own_ML g0 g1 g2 g3).getD j.toNatClampNeg 0).toNatClampNeg 0)) d6_54 Ar3 (inb_of Sz3 (own_q hg0 hg1 hg2 hg3 _)) (Hv3.at (inb_of Sz3 (own_q hg0 hg1 hg2 hg3 _)) (own_gdD [s0, s1, s2, s3] ((own_ML g0 g1 g2 g3).getD j.toNatClampNeg 0).toNatClampNeg)) rfl ?_
  show GoB6 l Z n0 Q hc 0 0 55 #[.val (.ref o), .val (.ref q0), .val (.ref q1), .val (.int (2 : Int32)), .val (.double sm), .second, .val (.int j)] [(.double ([s0, s1, s2, s3].getD ((own_ML g0 g1 g2 g3).getD j.toNatClampNeg 0).toNatClampNeg 0)), (.double sm)]
  refine OwnW.aloadN (pc' := 56) d6_55 rfl (rfl) rfl ?_
  refine OwnW.aloadN (pc' := 57) d6_56 rfl (rfl) rfl ?_
  refine OwnW.getF (a0 := a0) (pc' := 60) d6_57 (host := "") (Or.inl (hw _ (List.mem_of_getElem? (i := 31) rfl))) Via.refl F_members rfl ?_
  refine OwnW.iload (pc' := 62) d6_60 rfl rfl ?_
  obtain ⟨cl4, Ar4, qk4, Sz4, Mn4, Hv4, Gf4⟩ := id B_mA
  refine OwnW.iaload (pc' := 63) (v := .int ((own_ML g0 g1 g2 g3).getD j.toNatClampNeg 0)) d6_62 Ar4 (inb_of Sz4 (own_jT2 hg0 hg1 hg2 hg3 h0j hj)) (Hv4.at (inb_of Sz4 (own_jT2 hg0 hg1 hg2 hg3 h0j hj)) (own_gd (own_ML g0 g1 g2 g3) j.toNatClampNeg)) rfl ?_
  show GoB6 l Z n0 Q hc 0 0 63 #[.val (.ref o), .val (.ref q0), .val (.ref q1), .val (.int (2 : Int32)), .val (.double sm), .second, .val (.int j)] [(.int ((own_ML g0 g1 g2 g3).getD j.toNatClampNeg 0)), (.ref q0), (.double ([s0, s1, s2, s3].getD ((own_ML g0 g1 g2 g3).getD j.toNatClampNeg 0).toNatClampNeg 0)), (.double sm)]
  obtain ⟨cl5, Ar5, qk5, Sz5, Mn5, Hv5, Gf5⟩ := id A_q0
  refine OwnW.daload (pc' := 64) (v := .double ([x0, x1, x2, x3].getD ((own_ML g0 g1 g2 g3).getD j.toNatClampNeg 0).toNatClampNeg 0)) d6_63 Ar5 (inb_of Sz5 (own_q hg0 hg1 hg2 hg3 _)) (Hv5.at (inb_of Sz5 (own_q hg0 hg1 hg2 hg3 _)) (own_gdD [x0, x1, x2, x3] ((own_ML g0 g1 g2 g3).getD j.toNatClampNeg 0).toNatClampNeg)) rfl ?_
  show GoB6 l Z n0 Q hc 0 0 64 #[.val (.ref o), .val (.ref q0), .val (.ref q1), .val (.int (2 : Int32)), .val (.double sm), .second, .val (.int j)] [(.double ([x0, x1, x2, x3].getD ((own_ML g0 g1 g2 g3).getD j.toNatClampNeg 0).toNatClampNeg 0)), (.double ([s0, s1, s2, s3].getD ((own_ML g0 g1 g2 g3).getD j.toNatClampNeg 0).toNatClampNeg 0)), (.double sm)]
  refine OwnW.dmul (pc' := 65) d6_64 (dmul_out ((hM _).fin (by decide)) ((hX _).fin (by decide))) rfl rfl ?_
  refine OwnW.dadd (pc' := 66) d6_65 (dadd_out hs ((dmul_mag (hM _) (hX _) (by decide) (by decide)).fin (by decide))) rfl rfl ?_
  refine OwnW.dstore (pc' := 68) (L' := #[.val (.ref o), .val (.ref q0), .val (.ref q1), .val (.int (2 : Int32)), .val (.double (FP.dadd sm (FP.dmul ([s0, s1, s2, s3].getD ((own_ML g0 g1 g2 g3).getD j.toNatClampNeg 0).toNatClampNeg 0) ([x0, x1, x2, x3].getD ((own_ML g0 g1 g2 g3).getD j.toNatClampNeg 0).toNatClampNeg 0)))), .second, .val (.int j)]) d6_66 rfl rfl ?_
  refine OwnW.iinc (pc' := 71) (L' := #[.val (.ref o), .val (.ref q0), .val (.ref q1), .val (.int (2 : Int32)), .val (.double (FP.dadd sm (FP.dmul ([s0, s1, s2, s3].getD ((own_ML g0 g1 g2 g3).getD j.toNatClampNeg 0).toNatClampNeg 0) ([x0, x1, x2, x3].getD ((own_ML g0 g1 g2 g3).getD j.toNatClampNeg 0).toNatClampNeg 0)))), .second, .val (.int (j + (1 : Int32)))]) (d := (1 : Int32)) d6_68 rfl rfl rfl rfl ?_
  refine OwnW.goto (pc' := 28) d6_71 (by decide) (by decide) ?_
  exact inn2_3 l Z a0 hw o q0 q1 g0 g1 g2 g3 s0 s1 s2 s3 x0 x1 x2 x3 shA mA sA k1 k2 ks kx (j + (1 : Int32)) (FP.dadd sm (FP.dmul ([s0, s1, s2, s3].getD ((own_ML g0 g1 g2 g3).getD j.toNatClampNeg 0).toNatClampNeg 0) ([x0, x1, x2, x3].getD ((own_ML g0 g1 g2 g3).getD j.toNatClampNeg 0).toNatClampNeg 0))) Q h0 hc n0 Z0 XB E_o F_shares F_members F_memberStarts B_sA B_mA A_shA A_q0 hg0 hg1 hg2 hg3 hM hX (own_j0 h0j hj) (own_j1 h0j hj) (dadd_out hs ((dmul_mag (hM _) (hX _) (by decide) (by decide)).fin (by decide))) kt
set_option maxRecDepth 65536 in
set_option maxHeartbeats 400000000 in
theorem inn3_0 (l : Launch) (Z : State) (a0 : Array Value) (hw : ∀ d ∈ tables_1, d.before a0 Z = true) (o : Addr) (q0 : Addr) (q1 : Addr) (g0 : Int32) (g1 : Int32) (g2 : Int32) (g3 : Int32) (s0 : UInt64) (s1 : UInt64) (s2 : UInt64) (s3 : UInt64) (x0 : UInt64) (x1 : UInt64) (x2 : UInt64) (x3 : UInt64) (shA : Addr) (mA : Addr) (sA : Addr) (k1 : ClassId) (k2 : ClassId) (ks : ClassId) (kx : ClassId) (j : Int32) (sm : UInt64) (Q : Option Value → Heap → Prop) (h0 hc : Heap) (n0 : Nat) (Z0 : n0 ≤ hc.size) (XB : Ext h0 hc) (E_o : Exa Z hc o "com/example/sieve_for_links/sieveforlinks/VirtualLinks") (F_shares : Fld Z hc o "com/example/sieve_for_links/sieveforlinks/VirtualLinks" "shares" "[D" (.ref shA)) (F_members : Fld Z hc o "com/example/sieve_for_links/sieveforlinks/VirtualLinks" "members" "[I" (.ref mA)) (F_memberStarts : Fld Z hc o "com/example/sieve_for_links/sieveforlinks/VirtualLinks" "memberStarts" "[I" (.ref sA)) (B_sA : Arv Z hc sA k1 .int (5 : Int32) ((own_SL g0 g1 g2 g3).map Value.int) (.int (0 : Int32))) (B_mA : Arv Z hc mA k2 .int (own_T g0 g1 g2 g3) ((own_ML g0 g1 g2 g3).map Value.int) (.int (0 : Int32))) (A_shA : Arv Z hc shA ks .double (4 : Int32) [(.double s0), (.double s1), (.double s2), (.double s3)] (.double (0 : UInt64))) (A_q0 : Arv Z hc q0 kx .double (4 : Int32) [(.double x0), (.double x1), (.double x2), (.double x3)] (.double (0 : UInt64))) (hg0 : own_G g0) (hg1 : own_G g1) (hg2 : own_G g2) (hg3 : own_G g3) (hM : ∀ i, Mag64 1024 ([s0, s1, s2, s3].getD i 0)) (hX : ∀ i, Mag64 1056 ([x0, x1, x2, x3].getD i 0)) (h0j : 0 ≤ j.toInt) (hj : j.toInt + 0 = ((own_SL g0 g1 g2 g3).getD 4 0).toInt) (hs : NoNaN64 sm) (kt : GoB6 l Z n0 Q hc 0 0 74 #[.val (.ref o), .val (.ref q0), .val (.ref q1), .val (.int (3 : Int32)), .val (.double (own_fold [s0, s1, s2, s3] [x0, x1, x2, x3] (own_ML g0 g1 g2 g3) 0 j sm)), .second, .val (.int (own_jn 0 j))] []) :
    GoB6 l Z n0 Q hc 0 0 28 #[.val (.ref o), .val (.ref q0), .val (.ref q1), .val (.int (3 : Int32)), .val (.double sm), .second, .val (.int j)] [] := by
  refine OwnW.iload (pc' := 30) d6_28 rfl rfl ?_
  refine OwnW.aloadN (pc' := 31) d6_30 rfl (rfl) rfl ?_
  refine OwnW.getF (a0 := a0) (pc' := 34) d6_31 (host := "") (Or.inl (hw _ (List.mem_of_getElem? (i := 33) rfl))) Via.refl F_memberStarts rfl ?_
  refine OwnW.iloadN (pc' := 35) d6_34 rfl rfl ?_
  refine OwnW.iconst (pc' := 36) (v := (1 : Int32)) d6_35 rfl rfl ?_
  refine OwnW.iadd (pc' := 37) d6_36 rfl ?_
  show GoB6 l Z n0 Q hc 0 0 37 #[.val (.ref o), .val (.ref q0), .val (.ref q1), .val (.int (3 : Int32)), .val (.double sm), .second, .val (.int j)] [(.int (4 : Int32)), (.ref sA), (.int j)]
  obtain ⟨cl1, Ar1, qk1, Sz1, Mn1, Hv1, Gf1⟩ := id B_sA
  refine OwnW.iaload (pc' := 38) (v := .int ((own_SL g0 g1 g2 g3).getD 4 0)) d6_37 Ar1 (inb_of Sz1 ⟨by decide, by decide⟩) (Hv1.at (inb_of Sz1 ⟨by decide, by decide⟩) (own_gd (own_SL g0 g1 g2 g3) 4)) rfl ?_
  show GoB6 l Z n0 Q hc 0 0 38 #[.val (.ref o), .val (.ref q0), .val (.ref q1), .val (.int (3 : Int32)), .val (.double sm), .second, .val (.int j)] [(.int ((own_SL g0 g1 g2 g3).getD 4 0)), (.int j)]
  refine OwnW.icmpY (pc' := 74) d6_38 (flt (own_ge hj)).2.1 (by decide) (by decide) ?_
  exact kt
set_option maxRecDepth 65536 in
set_option maxHeartbeats 400000000 in
theorem inn3_1 (l : Launch) (Z : State) (a0 : Array Value) (hw : ∀ d ∈ tables_1, d.before a0 Z = true) (o : Addr) (q0 : Addr) (q1 : Addr) (g0 : Int32) (g1 : Int32) (g2 : Int32) (g3 : Int32) (s0 : UInt64) (s1 : UInt64) (s2 : UInt64) (s3 : UInt64) (x0 : UInt64) (x1 : UInt64) (x2 : UInt64) (x3 : UInt64) (shA : Addr) (mA : Addr) (sA : Addr) (k1 : ClassId) (k2 : ClassId) (ks : ClassId) (kx : ClassId) (j : Int32) (sm : UInt64) (Q : Option Value → Heap → Prop) (h0 hc : Heap) (n0 : Nat) (Z0 : n0 ≤ hc.size) (XB : Ext h0 hc) (E_o : Exa Z hc o "com/example/sieve_for_links/sieveforlinks/VirtualLinks") (F_shares : Fld Z hc o "com/example/sieve_for_links/sieveforlinks/VirtualLinks" "shares" "[D" (.ref shA)) (F_members : Fld Z hc o "com/example/sieve_for_links/sieveforlinks/VirtualLinks" "members" "[I" (.ref mA)) (F_memberStarts : Fld Z hc o "com/example/sieve_for_links/sieveforlinks/VirtualLinks" "memberStarts" "[I" (.ref sA)) (B_sA : Arv Z hc sA k1 .int (5 : Int32) ((own_SL g0 g1 g2 g3).map Value.int) (.int (0 : Int32))) (B_mA : Arv Z hc mA k2 .int (own_T g0 g1 g2 g3) ((own_ML g0 g1 g2 g3).map Value.int) (.int (0 : Int32))) (A_shA : Arv Z hc shA ks .double (4 : Int32) [(.double s0), (.double s1), (.double s2), (.double s3)] (.double (0 : UInt64))) (A_q0 : Arv Z hc q0 kx .double (4 : Int32) [(.double x0), (.double x1), (.double x2), (.double x3)] (.double (0 : UInt64))) (hg0 : own_G g0) (hg1 : own_G g1) (hg2 : own_G g2) (hg3 : own_G g3) (hM : ∀ i, Mag64 1024 ([s0, s1, s2, s3].getD i 0)) (hX : ∀ i, Mag64 1056 ([x0, x1, x2, x3].getD i 0)) (h0j : 0 ≤ j.toInt) (hj : j.toInt + 1 = ((own_SL g0 g1 g2 g3).getD 4 0).toInt) (hs : NoNaN64 sm) (kt : GoB6 l Z n0 Q hc 0 0 74 #[.val (.ref o), .val (.ref q0), .val (.ref q1), .val (.int (3 : Int32)), .val (.double (own_fold [s0, s1, s2, s3] [x0, x1, x2, x3] (own_ML g0 g1 g2 g3) 1 j sm)), .second, .val (.int (own_jn 1 j))] []) :
    GoB6 l Z n0 Q hc 0 0 28 #[.val (.ref o), .val (.ref q0), .val (.ref q1), .val (.int (3 : Int32)), .val (.double sm), .second, .val (.int j)] [] := by
  refine OwnW.iload (pc' := 30) d6_28 rfl rfl ?_
  refine OwnW.aloadN (pc' := 31) d6_30 rfl (rfl) rfl ?_
  refine OwnW.getF (a0 := a0) (pc' := 34) d6_31 (host := "") (Or.inl (hw _ (List.mem_of_getElem? (i := 33) rfl))) Via.refl F_memberStarts rfl ?_
  refine OwnW.iloadN (pc' := 35) d6_34 rfl rfl ?_
  refine OwnW.iconst (pc' := 36) (v := (1 : Int32)) d6_35 rfl rfl ?_
  refine OwnW.iadd (pc' := 37) d6_36 rfl ?_
  show GoB6 l Z n0 Q hc 0 0 37 #[.val (.ref o), .val (.ref q0), .val (.ref q1), .val (.int (3 : Int32)), .val (.double sm), .second, .val (.int j)] [(.int (4 : Int32)), (.ref sA), (.int j)]
  obtain ⟨cl1, Ar1, qk1, Sz1, Mn1, Hv1, Gf1⟩ := id B_sA
  refine OwnW.iaload (pc' := 38) (v := .int ((own_SL g0 g1 g2 g3).getD 4 0)) d6_37 Ar1 (inb_of Sz1 ⟨by decide, by decide⟩) (Hv1.at (inb_of Sz1 ⟨by decide, by decide⟩) (own_gd (own_SL g0 g1 g2 g3) 4)) rfl ?_
  show GoB6 l Z n0 Q hc 0 0 38 #[.val (.ref o), .val (.ref q0), .val (.ref q1), .val (.int (3 : Int32)), .val (.double sm), .second, .val (.int j)] [(.int ((own_SL g0 g1 g2 g3).getD 4 0)), (.int j)]
  refine OwnW.icmpN (pc' := 41) d6_38 (tlt (own_lt hj)).2.1 rfl ?_
  refine OwnW.dload (pc' := 43) d6_41 rfl rfl ?_
  refine OwnW.aloadN (pc' := 44) d6_43 rfl (rfl) rfl ?_
  refine OwnW.getF (a0 := a0) (pc' := 47) d6_44 (host := "") (Or.inl (hw _ (List.mem_of_getElem? (i := 29) rfl))) Via.refl F_shares rfl ?_
  refine OwnW.aloadN (pc' := 48) d6_47 rfl (rfl) rfl ?_
  refine OwnW.getF (a0 := a0) (pc' := 51) d6_48 (host := "") (Or.inl (hw _ (List.mem_of_getElem? (i := 31) rfl))) Via.refl F_members rfl ?_
  refine OwnW.iload (pc' := 53) d6_51 rfl rfl ?_
  obtain ⟨cl2, Ar2, qk2, Sz2, Mn2, Hv2, Gf2⟩ := id B_mA
  refine OwnW.iaload (pc' := 54) (v := .int ((own_ML g0 g1 g2 g3).getD j.toNatClampNeg 0)) d6_53 Ar2 (inb_of Sz2 (own_jT3 hg0 hg1 hg2 hg3 h0j hj)) (Hv2.at (inb_of Sz2 (own_jT3 hg0 hg1 hg2 hg3 h0j hj)) (own_gd (own_ML g0 g1 g2 g3) j.toNatClampNeg)) rfl ?_
  show GoB6 l Z n0 Q hc 0 0 54 #[.val (.ref o), .val (.ref q0), .val (.ref q1), .val (.int (3 : Int32)), .val (.double sm), .second, .val (.int j)] [(.int ((own_ML g0 g1 g2 g3).getD j.toNatClampNeg 0)), (.ref shA), (.double sm)]
  obtain ⟨cl3, Ar3, qk3, Sz3, Mn3, Hv3, Gf3⟩ := id A_shA
  refine OwnW.daload (pc' := 55) (v := .double ([s0, s1, s2, s3].getD ((own_ML g0 g1 g2 g3).getD j.toNatClampNeg 0).toNatClampNeg 0)) d6_54 Ar3 (inb_of Sz3 (own_q hg0 hg1 hg2 hg3 _)) (Hv3.at (inb_of Sz3 (own_q hg0 hg1 hg2 hg3 _)) (own_gdD [s0, s1, s2, s3] ((own_ML g0 g1 g2 g3).getD j.toNatClampNeg 0).toNatClampNeg)) rfl ?_
  show GoB6 l Z n0 Q hc 0 0 55 #[.val (.ref o), .val (.ref q0), .val (.ref q1), .val (.int (3 : Int32)), .val (.double sm), .second, .val (.int j)] [(.double ([s0, s1, s2, s3].getD ((own_ML g0 g1 g2 g3).getD j.toNatClampNeg 0).toNatClampNeg 0)), (.double sm)]
  refine OwnW.aloadN (pc' := 56) d6_55 rfl (rfl) rfl ?_
  refine OwnW.aloadN (pc' := 57) d6_56 rfl (rfl) rfl ?_
  refine OwnW.getF (a0 := a0) (pc' := 60) d6_57 (host := "") (Or.inl (hw _ (List.mem_of_getElem? (i := 31) rfl))) Via.refl F_members rfl ?_
  refine OwnW.iload (pc' := 62) d6_60 rfl rfl ?_
  obtain ⟨cl4, Ar4, qk4, Sz4, Mn4, Hv4, Gf4⟩ := id B_mA
  refine OwnW.iaload (pc' := 63) (v := .int ((own_ML g0 g1 g2 g3).getD j.toNatClampNeg 0)) d6_62 Ar4 (inb_of Sz4 (own_jT3 hg0 hg1 hg2 hg3 h0j hj)) (Hv4.at (inb_of Sz4 (own_jT3 hg0 hg1 hg2 hg3 h0j hj)) (own_gd (own_ML g0 g1 g2 g3) j.toNatClampNeg)) rfl ?_
  show GoB6 l Z n0 Q hc 0 0 63 #[.val (.ref o), .val (.ref q0), .val (.ref q1), .val (.int (3 : Int32)), .val (.double sm), .second, .val (.int j)] [(.int ((own_ML g0 g1 g2 g3).getD j.toNatClampNeg 0)), (.ref q0), (.double ([s0, s1, s2, s3].getD ((own_ML g0 g1 g2 g3).getD j.toNatClampNeg 0).toNatClampNeg 0)), (.double sm)]
  obtain ⟨cl5, Ar5, qk5, Sz5, Mn5, Hv5, Gf5⟩ := id A_q0
  refine OwnW.daload (pc' := 64) (v := .double ([x0, x1, x2, x3].getD ((own_ML g0 g1 g2 g3).getD j.toNatClampNeg 0).toNatClampNeg 0)) d6_63 Ar5 (inb_of Sz5 (own_q hg0 hg1 hg2 hg3 _)) (Hv5.at (inb_of Sz5 (own_q hg0 hg1 hg2 hg3 _)) (own_gdD [x0, x1, x2, x3] ((own_ML g0 g1 g2 g3).getD j.toNatClampNeg 0).toNatClampNeg)) rfl ?_
  show GoB6 l Z n0 Q hc 0 0 64 #[.val (.ref o), .val (.ref q0), .val (.ref q1), .val (.int (3 : Int32)), .val (.double sm), .second, .val (.int j)] [(.double ([x0, x1, x2, x3].getD ((own_ML g0 g1 g2 g3).getD j.toNatClampNeg 0).toNatClampNeg 0)), (.double ([s0, s1, s2, s3].getD ((own_ML g0 g1 g2 g3).getD j.toNatClampNeg 0).toNatClampNeg 0)), (.double sm)]
  refine OwnW.dmul (pc' := 65) d6_64 (dmul_out ((hM _).fin (by decide)) ((hX _).fin (by decide))) rfl rfl ?_
  refine OwnW.dadd (pc' := 66) d6_65 (dadd_out hs ((dmul_mag (hM _) (hX _) (by decide) (by decide)).fin (by decide))) rfl rfl ?_
  refine OwnW.dstore (pc' := 68) (L' := #[.val (.ref o), .val (.ref q0), .val (.ref q1), .val (.int (3 : Int32)), .val (.double (FP.dadd sm (FP.dmul ([s0, s1, s2, s3].getD ((own_ML g0 g1 g2 g3).getD j.toNatClampNeg 0).toNatClampNeg 0) ([x0, x1, x2, x3].getD ((own_ML g0 g1 g2 g3).getD j.toNatClampNeg 0).toNatClampNeg 0)))), .second, .val (.int j)]) d6_66 rfl rfl ?_
  refine OwnW.iinc (pc' := 71) (L' := #[.val (.ref o), .val (.ref q0), .val (.ref q1), .val (.int (3 : Int32)), .val (.double (FP.dadd sm (FP.dmul ([s0, s1, s2, s3].getD ((own_ML g0 g1 g2 g3).getD j.toNatClampNeg 0).toNatClampNeg 0) ([x0, x1, x2, x3].getD ((own_ML g0 g1 g2 g3).getD j.toNatClampNeg 0).toNatClampNeg 0)))), .second, .val (.int (j + (1 : Int32)))]) (d := (1 : Int32)) d6_68 rfl rfl rfl rfl ?_
  refine OwnW.goto (pc' := 28) d6_71 (by decide) (by decide) ?_
  exact inn3_0 l Z a0 hw o q0 q1 g0 g1 g2 g3 s0 s1 s2 s3 x0 x1 x2 x3 shA mA sA k1 k2 ks kx (j + (1 : Int32)) (FP.dadd sm (FP.dmul ([s0, s1, s2, s3].getD ((own_ML g0 g1 g2 g3).getD j.toNatClampNeg 0).toNatClampNeg 0) ([x0, x1, x2, x3].getD ((own_ML g0 g1 g2 g3).getD j.toNatClampNeg 0).toNatClampNeg 0))) Q h0 hc n0 Z0 XB E_o F_shares F_members F_memberStarts B_sA B_mA A_shA A_q0 hg0 hg1 hg2 hg3 hM hX (own_j0 h0j hj) (own_j1 h0j hj) (dadd_out hs ((dmul_mag (hM _) (hX _) (by decide) (by decide)).fin (by decide))) kt
set_option maxRecDepth 65536 in
set_option maxHeartbeats 400000000 in
theorem inn3_2 (l : Launch) (Z : State) (a0 : Array Value) (hw : ∀ d ∈ tables_1, d.before a0 Z = true) (o : Addr) (q0 : Addr) (q1 : Addr) (g0 : Int32) (g1 : Int32) (g2 : Int32) (g3 : Int32) (s0 : UInt64) (s1 : UInt64) (s2 : UInt64) (s3 : UInt64) (x0 : UInt64) (x1 : UInt64) (x2 : UInt64) (x3 : UInt64) (shA : Addr) (mA : Addr) (sA : Addr) (k1 : ClassId) (k2 : ClassId) (ks : ClassId) (kx : ClassId) (j : Int32) (sm : UInt64) (Q : Option Value → Heap → Prop) (h0 hc : Heap) (n0 : Nat) (Z0 : n0 ≤ hc.size) (XB : Ext h0 hc) (E_o : Exa Z hc o "com/example/sieve_for_links/sieveforlinks/VirtualLinks") (F_shares : Fld Z hc o "com/example/sieve_for_links/sieveforlinks/VirtualLinks" "shares" "[D" (.ref shA)) (F_members : Fld Z hc o "com/example/sieve_for_links/sieveforlinks/VirtualLinks" "members" "[I" (.ref mA)) (F_memberStarts : Fld Z hc o "com/example/sieve_for_links/sieveforlinks/VirtualLinks" "memberStarts" "[I" (.ref sA)) (B_sA : Arv Z hc sA k1 .int (5 : Int32) ((own_SL g0 g1 g2 g3).map Value.int) (.int (0 : Int32))) (B_mA : Arv Z hc mA k2 .int (own_T g0 g1 g2 g3) ((own_ML g0 g1 g2 g3).map Value.int) (.int (0 : Int32))) (A_shA : Arv Z hc shA ks .double (4 : Int32) [(.double s0), (.double s1), (.double s2), (.double s3)] (.double (0 : UInt64))) (A_q0 : Arv Z hc q0 kx .double (4 : Int32) [(.double x0), (.double x1), (.double x2), (.double x3)] (.double (0 : UInt64))) (hg0 : own_G g0) (hg1 : own_G g1) (hg2 : own_G g2) (hg3 : own_G g3) (hM : ∀ i, Mag64 1024 ([s0, s1, s2, s3].getD i 0)) (hX : ∀ i, Mag64 1056 ([x0, x1, x2, x3].getD i 0)) (h0j : 0 ≤ j.toInt) (hj : j.toInt + 2 = ((own_SL g0 g1 g2 g3).getD 4 0).toInt) (hs : NoNaN64 sm) (kt : GoB6 l Z n0 Q hc 0 0 74 #[.val (.ref o), .val (.ref q0), .val (.ref q1), .val (.int (3 : Int32)), .val (.double (own_fold [s0, s1, s2, s3] [x0, x1, x2, x3] (own_ML g0 g1 g2 g3) 2 j sm)), .second, .val (.int (own_jn 2 j))] []) :
    GoB6 l Z n0 Q hc 0 0 28 #[.val (.ref o), .val (.ref q0), .val (.ref q1), .val (.int (3 : Int32)), .val (.double sm), .second, .val (.int j)] [] := by
  refine OwnW.iload (pc' := 30) d6_28 rfl rfl ?_
  refine OwnW.aloadN (pc' := 31) d6_30 rfl (rfl) rfl ?_
  refine OwnW.getF (a0 := a0) (pc' := 34) d6_31 (host := "") (Or.inl (hw _ (List.mem_of_getElem? (i := 33) rfl))) Via.refl F_memberStarts rfl ?_
  refine OwnW.iloadN (pc' := 35) d6_34 rfl rfl ?_
  refine OwnW.iconst (pc' := 36) (v := (1 : Int32)) d6_35 rfl rfl ?_
  refine OwnW.iadd (pc' := 37) d6_36 rfl ?_
  show GoB6 l Z n0 Q hc 0 0 37 #[.val (.ref o), .val (.ref q0), .val (.ref q1), .val (.int (3 : Int32)), .val (.double sm), .second, .val (.int j)] [(.int (4 : Int32)), (.ref sA), (.int j)]
  obtain ⟨cl1, Ar1, qk1, Sz1, Mn1, Hv1, Gf1⟩ := id B_sA
  refine OwnW.iaload (pc' := 38) (v := .int ((own_SL g0 g1 g2 g3).getD 4 0)) d6_37 Ar1 (inb_of Sz1 ⟨by decide, by decide⟩) (Hv1.at (inb_of Sz1 ⟨by decide, by decide⟩) (own_gd (own_SL g0 g1 g2 g3) 4)) rfl ?_
  show GoB6 l Z n0 Q hc 0 0 38 #[.val (.ref o), .val (.ref q0), .val (.ref q1), .val (.int (3 : Int32)), .val (.double sm), .second, .val (.int j)] [(.int ((own_SL g0 g1 g2 g3).getD 4 0)), (.int j)]
  refine OwnW.icmpN (pc' := 41) d6_38 (tlt (own_lt hj)).2.1 rfl ?_
  refine OwnW.dload (pc' := 43) d6_41 rfl rfl ?_
  refine OwnW.aloadN (pc' := 44) d6_43 rfl (rfl) rfl ?_
  refine OwnW.getF (a0 := a0) (pc' := 47) d6_44 (host := "") (Or.inl (hw _ (List.mem_of_getElem? (i := 29) rfl))) Via.refl F_shares rfl ?_
  refine OwnW.aloadN (pc' := 48) d6_47 rfl (rfl) rfl ?_
  refine OwnW.getF (a0 := a0) (pc' := 51) d6_48 (host := "") (Or.inl (hw _ (List.mem_of_getElem? (i := 31) rfl))) Via.refl F_members rfl ?_
  refine OwnW.iload (pc' := 53) d6_51 rfl rfl ?_
  obtain ⟨cl2, Ar2, qk2, Sz2, Mn2, Hv2, Gf2⟩ := id B_mA
  refine OwnW.iaload (pc' := 54) (v := .int ((own_ML g0 g1 g2 g3).getD j.toNatClampNeg 0)) d6_53 Ar2 (inb_of Sz2 (own_jT3 hg0 hg1 hg2 hg3 h0j hj)) (Hv2.at (inb_of Sz2 (own_jT3 hg0 hg1 hg2 hg3 h0j hj)) (own_gd (own_ML g0 g1 g2 g3) j.toNatClampNeg)) rfl ?_
  show GoB6 l Z n0 Q hc 0 0 54 #[.val (.ref o), .val (.ref q0), .val (.ref q1), .val (.int (3 : Int32)), .val (.double sm), .second, .val (.int j)] [(.int ((own_ML g0 g1 g2 g3).getD j.toNatClampNeg 0)), (.ref shA), (.double sm)]
  obtain ⟨cl3, Ar3, qk3, Sz3, Mn3, Hv3, Gf3⟩ := id A_shA
  refine OwnW.daload (pc' := 55) (v := .double ([s0, s1, s2, s3].getD ((own_ML g0 g1 g2 g3).getD j.toNatClampNeg 0).toNatClampNeg 0)) d6_54 Ar3 (inb_of Sz3 (own_q hg0 hg1 hg2 hg3 _)) (Hv3.at (inb_of Sz3 (own_q hg0 hg1 hg2 hg3 _)) (own_gdD [s0, s1, s2, s3] ((own_ML g0 g1 g2 g3).getD j.toNatClampNeg 0).toNatClampNeg)) rfl ?_
  show GoB6 l Z n0 Q hc 0 0 55 #[.val (.ref o), .val (.ref q0), .val (.ref q1), .val (.int (3 : Int32)), .val (.double sm), .second, .val (.int j)] [(.double ([s0, s1, s2, s3].getD ((own_ML g0 g1 g2 g3).getD j.toNatClampNeg 0).toNatClampNeg 0)), (.double sm)]
  refine OwnW.aloadN (pc' := 56) d6_55 rfl (rfl) rfl ?_
  refine OwnW.aloadN (pc' := 57) d6_56 rfl (rfl) rfl ?_
  refine OwnW.getF (a0 := a0) (pc' := 60) d6_57 (host := "") (Or.inl (hw _ (List.mem_of_getElem? (i := 31) rfl))) Via.refl F_members rfl ?_
  refine OwnW.iload (pc' := 62) d6_60 rfl rfl ?_
  obtain ⟨cl4, Ar4, qk4, Sz4, Mn4, Hv4, Gf4⟩ := id B_mA
  refine OwnW.iaload (pc' := 63) (v := .int ((own_ML g0 g1 g2 g3).getD j.toNatClampNeg 0)) d6_62 Ar4 (inb_of Sz4 (own_jT3 hg0 hg1 hg2 hg3 h0j hj)) (Hv4.at (inb_of Sz4 (own_jT3 hg0 hg1 hg2 hg3 h0j hj)) (own_gd (own_ML g0 g1 g2 g3) j.toNatClampNeg)) rfl ?_
  show GoB6 l Z n0 Q hc 0 0 63 #[.val (.ref o), .val (.ref q0), .val (.ref q1), .val (.int (3 : Int32)), .val (.double sm), .second, .val (.int j)] [(.int ((own_ML g0 g1 g2 g3).getD j.toNatClampNeg 0)), (.ref q0), (.double ([s0, s1, s2, s3].getD ((own_ML g0 g1 g2 g3).getD j.toNatClampNeg 0).toNatClampNeg 0)), (.double sm)]
  obtain ⟨cl5, Ar5, qk5, Sz5, Mn5, Hv5, Gf5⟩ := id A_q0
  refine OwnW.daload (pc' := 64) (v := .double ([x0, x1, x2, x3].getD ((own_ML g0 g1 g2 g3).getD j.toNatClampNeg 0).toNatClampNeg 0)) d6_63 Ar5 (inb_of Sz5 (own_q hg0 hg1 hg2 hg3 _)) (Hv5.at (inb_of Sz5 (own_q hg0 hg1 hg2 hg3 _)) (own_gdD [x0, x1, x2, x3] ((own_ML g0 g1 g2 g3).getD j.toNatClampNeg 0).toNatClampNeg)) rfl ?_
  show GoB6 l Z n0 Q hc 0 0 64 #[.val (.ref o), .val (.ref q0), .val (.ref q1), .val (.int (3 : Int32)), .val (.double sm), .second, .val (.int j)] [(.double ([x0, x1, x2, x3].getD ((own_ML g0 g1 g2 g3).getD j.toNatClampNeg 0).toNatClampNeg 0)), (.double ([s0, s1, s2, s3].getD ((own_ML g0 g1 g2 g3).getD j.toNatClampNeg 0).toNatClampNeg 0)), (.double sm)]
  refine OwnW.dmul (pc' := 65) d6_64 (dmul_out ((hM _).fin (by decide)) ((hX _).fin (by decide))) rfl rfl ?_
  refine OwnW.dadd (pc' := 66) d6_65 (dadd_out hs ((dmul_mag (hM _) (hX _) (by decide) (by decide)).fin (by decide))) rfl rfl ?_
  refine OwnW.dstore (pc' := 68) (L' := #[.val (.ref o), .val (.ref q0), .val (.ref q1), .val (.int (3 : Int32)), .val (.double (FP.dadd sm (FP.dmul ([s0, s1, s2, s3].getD ((own_ML g0 g1 g2 g3).getD j.toNatClampNeg 0).toNatClampNeg 0) ([x0, x1, x2, x3].getD ((own_ML g0 g1 g2 g3).getD j.toNatClampNeg 0).toNatClampNeg 0)))), .second, .val (.int j)]) d6_66 rfl rfl ?_
  refine OwnW.iinc (pc' := 71) (L' := #[.val (.ref o), .val (.ref q0), .val (.ref q1), .val (.int (3 : Int32)), .val (.double (FP.dadd sm (FP.dmul ([s0, s1, s2, s3].getD ((own_ML g0 g1 g2 g3).getD j.toNatClampNeg 0).toNatClampNeg 0) ([x0, x1, x2, x3].getD ((own_ML g0 g1 g2 g3).getD j.toNatClampNeg 0).toNatClampNeg 0)))), .second, .val (.int (j + (1 : Int32)))]) (d := (1 : Int32)) d6_68 rfl rfl rfl rfl ?_
  refine OwnW.goto (pc' := 28) d6_71 (by decide) (by decide) ?_
  exact inn3_1 l Z a0 hw o q0 q1 g0 g1 g2 g3 s0 s1 s2 s3 x0 x1 x2 x3 shA mA sA k1 k2 ks kx (j + (1 : Int32)) (FP.dadd sm (FP.dmul ([s0, s1, s2, s3].getD ((own_ML g0 g1 g2 g3).getD j.toNatClampNeg 0).toNatClampNeg 0) ([x0, x1, x2, x3].getD ((own_ML g0 g1 g2 g3).getD j.toNatClampNeg 0).toNatClampNeg 0))) Q h0 hc n0 Z0 XB E_o F_shares F_members F_memberStarts B_sA B_mA A_shA A_q0 hg0 hg1 hg2 hg3 hM hX (own_j0 h0j hj) (own_j1 h0j hj) (dadd_out hs ((dmul_mag (hM _) (hX _) (by decide) (by decide)).fin (by decide))) kt
set_option maxRecDepth 65536 in
set_option maxHeartbeats 400000000 in
theorem inn3_3 (l : Launch) (Z : State) (a0 : Array Value) (hw : ∀ d ∈ tables_1, d.before a0 Z = true) (o : Addr) (q0 : Addr) (q1 : Addr) (g0 : Int32) (g1 : Int32) (g2 : Int32) (g3 : Int32) (s0 : UInt64) (s1 : UInt64) (s2 : UInt64) (s3 : UInt64) (x0 : UInt64) (x1 : UInt64) (x2 : UInt64) (x3 : UInt64) (shA : Addr) (mA : Addr) (sA : Addr) (k1 : ClassId) (k2 : ClassId) (ks : ClassId) (kx : ClassId) (j : Int32) (sm : UInt64) (Q : Option Value → Heap → Prop) (h0 hc : Heap) (n0 : Nat) (Z0 : n0 ≤ hc.size) (XB : Ext h0 hc) (E_o : Exa Z hc o "com/example/sieve_for_links/sieveforlinks/VirtualLinks") (F_shares : Fld Z hc o "com/example/sieve_for_links/sieveforlinks/VirtualLinks" "shares" "[D" (.ref shA)) (F_members : Fld Z hc o "com/example/sieve_for_links/sieveforlinks/VirtualLinks" "members" "[I" (.ref mA)) (F_memberStarts : Fld Z hc o "com/example/sieve_for_links/sieveforlinks/VirtualLinks" "memberStarts" "[I" (.ref sA)) (B_sA : Arv Z hc sA k1 .int (5 : Int32) ((own_SL g0 g1 g2 g3).map Value.int) (.int (0 : Int32))) (B_mA : Arv Z hc mA k2 .int (own_T g0 g1 g2 g3) ((own_ML g0 g1 g2 g3).map Value.int) (.int (0 : Int32))) (A_shA : Arv Z hc shA ks .double (4 : Int32) [(.double s0), (.double s1), (.double s2), (.double s3)] (.double (0 : UInt64))) (A_q0 : Arv Z hc q0 kx .double (4 : Int32) [(.double x0), (.double x1), (.double x2), (.double x3)] (.double (0 : UInt64))) (hg0 : own_G g0) (hg1 : own_G g1) (hg2 : own_G g2) (hg3 : own_G g3) (hM : ∀ i, Mag64 1024 ([s0, s1, s2, s3].getD i 0)) (hX : ∀ i, Mag64 1056 ([x0, x1, x2, x3].getD i 0)) (h0j : 0 ≤ j.toInt) (hj : j.toInt + 3 = ((own_SL g0 g1 g2 g3).getD 4 0).toInt) (hs : NoNaN64 sm) (kt : GoB6 l Z n0 Q hc 0 0 74 #[.val (.ref o), .val (.ref q0), .val (.ref q1), .val (.int (3 : Int32)), .val (.double (own_fold [s0, s1, s2, s3] [x0, x1, x2, x3] (own_ML g0 g1 g2 g3) 3 j sm)), .second, .val (.int (own_jn 3 j))] []) :
    GoB6 l Z n0 Q hc 0 0 28 #[.val (.ref o), .val (.ref q0), .val (.ref q1), .val (.int (3 : Int32)), .val (.double sm), .second, .val (.int j)] [] := by
  refine OwnW.iload (pc' := 30) d6_28 rfl rfl ?_
  refine OwnW.aloadN (pc' := 31) d6_30 rfl (rfl) rfl ?_
  refine OwnW.getF (a0 := a0) (pc' := 34) d6_31 (host := "") (Or.inl (hw _ (List.mem_of_getElem? (i := 33) rfl))) Via.refl F_memberStarts rfl ?_
  refine OwnW.iloadN (pc' := 35) d6_34 rfl rfl ?_
  refine OwnW.iconst (pc' := 36) (v := (1 : Int32)) d6_35 rfl rfl ?_
  refine OwnW.iadd (pc' := 37) d6_36 rfl ?_
  show GoB6 l Z n0 Q hc 0 0 37 #[.val (.ref o), .val (.ref q0), .val (.ref q1), .val (.int (3 : Int32)), .val (.double sm), .second, .val (.int j)] [(.int (4 : Int32)), (.ref sA), (.int j)]
  obtain ⟨cl1, Ar1, qk1, Sz1, Mn1, Hv1, Gf1⟩ := id B_sA
  refine OwnW.iaload (pc' := 38) (v := .int ((own_SL g0 g1 g2 g3).getD 4 0)) d6_37 Ar1 (inb_of Sz1 ⟨by decide, by decide⟩) (Hv1.at (inb_of Sz1 ⟨by decide, by decide⟩) (own_gd (own_SL g0 g1 g2 g3) 4)) rfl ?_
  show GoB6 l Z n0 Q hc 0 0 38 #[.val (.ref o), .val (.ref q0), .val (.ref q1), .val (.int (3 : Int32)), .val (.double sm), .second, .val (.int j)] [(.int ((own_SL g0 g1 g2 g3).getD 4 0)), (.int j)]
  refine OwnW.icmpN (pc' := 41) d6_38 (tlt (own_lt hj)).2.1 rfl ?_
  refine OwnW.dload (pc' := 43) d6_41 rfl rfl ?_
  refine OwnW.aloadN (pc' := 44) d6_43 rfl (rfl) rfl ?_
  refine OwnW.getF (a0 := a0) (pc' := 47) d6_44 (host := "") (Or.inl (hw _ (List.mem_of_getElem? (i := 29) rfl))) Via.refl F_shares rfl ?_
  refine OwnW.aloadN (pc' := 48) d6_47 rfl (rfl) rfl ?_
  refine OwnW.getF (a0 := a0) (pc' := 51) d6_48 (host := "") (Or.inl (hw _ (List.mem_of_getElem? (i := 31) rfl))) Via.refl F_members rfl ?_
  refine OwnW.iload (pc' := 53) d6_51 rfl rfl ?_
  obtain ⟨cl2, Ar2, qk2, Sz2, Mn2, Hv2, Gf2⟩ := id B_mA
  refine OwnW.iaload (pc' := 54) (v := .int ((own_ML g0 g1 g2 g3).getD j.toNatClampNeg 0)) d6_53 Ar2 (inb_of Sz2 (own_jT3 hg0 hg1 hg2 hg3 h0j hj)) (Hv2.at (inb_of Sz2 (own_jT3 hg0 hg1 hg2 hg3 h0j hj)) (own_gd (own_ML g0 g1 g2 g3) j.toNatClampNeg)) rfl ?_
  show GoB6 l Z n0 Q hc 0 0 54 #[.val (.ref o), .val (.ref q0), .val (.ref q1), .val (.int (3 : Int32)), .val (.double sm), .second, .val (.int j)] [(.int ((own_ML g0 g1 g2 g3).getD j.toNatClampNeg 0)), (.ref shA), (.double sm)]
  obtain ⟨cl3, Ar3, qk3, Sz3, Mn3, Hv3, Gf3⟩ := id A_shA
  refine OwnW.daload (pc' := 55) (v := .double ([s0, s1, s2, s3].getD ((own_ML g0 g1 g2 g3).getD j.toNatClampNeg 0).toNatClampNeg 0)) d6_54 Ar3 (inb_of Sz3 (own_q hg0 hg1 hg2 hg3 _)) (Hv3.at (inb_of Sz3 (own_q hg0 hg1 hg2 hg3 _)) (own_gdD [s0, s1, s2, s3] ((own_ML g0 g1 g2 g3).getD j.toNatClampNeg 0).toNatClampNeg)) rfl ?_
  show GoB6 l Z n0 Q hc 0 0 55 #[.val (.ref o), .val (.ref q0), .val (.ref q1), .val (.int (3 : Int32)), .val (.double sm), .second, .val (.int j)] [(.double ([s0, s1, s2, s3].getD ((own_ML g0 g1 g2 g3).getD j.toNatClampNeg 0).toNatClampNeg 0)), (.double sm)]
  refine OwnW.aloadN (pc' := 56) d6_55 rfl (rfl) rfl ?_
  refine OwnW.aloadN (pc' := 57) d6_56 rfl (rfl) rfl ?_
  refine OwnW.getF (a0 := a0) (pc' := 60) d6_57 (host := "") (Or.inl (hw _ (List.mem_of_getElem? (i := 31) rfl))) Via.refl F_members rfl ?_
  refine OwnW.iload (pc' := 62) d6_60 rfl rfl ?_
  obtain ⟨cl4, Ar4, qk4, Sz4, Mn4, Hv4, Gf4⟩ := id B_mA
  refine OwnW.iaload (pc' := 63) (v := .int ((own_ML g0 g1 g2 g3).getD j.toNatClampNeg 0)) d6_62 Ar4 (inb_of Sz4 (own_jT3 hg0 hg1 hg2 hg3 h0j hj)) (Hv4.at (inb_of Sz4 (own_jT3 hg0 hg1 hg2 hg3 h0j hj)) (own_gd (own_ML g0 g1 g2 g3) j.toNatClampNeg)) rfl ?_
  show GoB6 l Z n0 Q hc 0 0 63 #[.val (.ref o), .val (.ref q0), .val (.ref q1), .val (.int (3 : Int32)), .val (.double sm), .second, .val (.int j)] [(.int ((own_ML g0 g1 g2 g3).getD j.toNatClampNeg 0)), (.ref q0), (.double ([s0, s1, s2, s3].getD ((own_ML g0 g1 g2 g3).getD j.toNatClampNeg 0).toNatClampNeg 0)), (.double sm)]
  obtain ⟨cl5, Ar5, qk5, Sz5, Mn5, Hv5, Gf5⟩ := id A_q0
  refine OwnW.daload (pc' := 64) (v := .double ([x0, x1, x2, x3].getD ((own_ML g0 g1 g2 g3).getD j.toNatClampNeg 0).toNatClampNeg 0)) d6_63 Ar5 (inb_of Sz5 (own_q hg0 hg1 hg2 hg3 _)) (Hv5.at (inb_of Sz5 (own_q hg0 hg1 hg2 hg3 _)) (own_gdD [x0, x1, x2, x3] ((own_ML g0 g1 g2 g3).getD j.toNatClampNeg 0).toNatClampNeg)) rfl ?_
  show GoB6 l Z n0 Q hc 0 0 64 #[.val (.ref o), .val (.ref q0), .val (.ref q1), .val (.int (3 : Int32)), .val (.double sm), .second, .val (.int j)] [(.double ([x0, x1, x2, x3].getD ((own_ML g0 g1 g2 g3).getD j.toNatClampNeg 0).toNatClampNeg 0)), (.double ([s0, s1, s2, s3].getD ((own_ML g0 g1 g2 g3).getD j.toNatClampNeg 0).toNatClampNeg 0)), (.double sm)]
  refine OwnW.dmul (pc' := 65) d6_64 (dmul_out ((hM _).fin (by decide)) ((hX _).fin (by decide))) rfl rfl ?_
  refine OwnW.dadd (pc' := 66) d6_65 (dadd_out hs ((dmul_mag (hM _) (hX _) (by decide) (by decide)).fin (by decide))) rfl rfl ?_
  refine OwnW.dstore (pc' := 68) (L' := #[.val (.ref o), .val (.ref q0), .val (.ref q1), .val (.int (3 : Int32)), .val (.double (FP.dadd sm (FP.dmul ([s0, s1, s2, s3].getD ((own_ML g0 g1 g2 g3).getD j.toNatClampNeg 0).toNatClampNeg 0) ([x0, x1, x2, x3].getD ((own_ML g0 g1 g2 g3).getD j.toNatClampNeg 0).toNatClampNeg 0)))), .second, .val (.int j)]) d6_66 rfl rfl ?_
  refine OwnW.iinc (pc' := 71) (L' := #[.val (.ref o), .val (.ref q0), .val (.ref q1), .val (.int (3 : Int32)), .val (.double (FP.dadd sm (FP.dmul ([s0, s1, s2, s3].getD ((own_ML g0 g1 g2 g3).getD j.toNatClampNeg 0).toNatClampNeg 0) ([x0, x1, x2, x3].getD ((own_ML g0 g1 g2 g3).getD j.toNatClampNeg 0).toNatClampNeg 0)))), .second, .val (.int (j + (1 : Int32)))]) (d := (1 : Int32)) d6_68 rfl rfl rfl rfl ?_
  refine OwnW.goto (pc' := 28) d6_71 (by decide) (by decide) ?_
  exact inn3_2 l Z a0 hw o q0 q1 g0 g1 g2 g3 s0 s1 s2 s3 x0 x1 x2 x3 shA mA sA k1 k2 ks kx (j + (1 : Int32)) (FP.dadd sm (FP.dmul ([s0, s1, s2, s3].getD ((own_ML g0 g1 g2 g3).getD j.toNatClampNeg 0).toNatClampNeg 0) ([x0, x1, x2, x3].getD ((own_ML g0 g1 g2 g3).getD j.toNatClampNeg 0).toNatClampNeg 0))) Q h0 hc n0 Z0 XB E_o F_shares F_members F_memberStarts B_sA B_mA A_shA A_q0 hg0 hg1 hg2 hg3 hM hX (own_j0 h0j hj) (own_j1 h0j hj) (dadd_out hs ((dmul_mag (hM _) (hX _) (by decide) (by decide)).fin (by decide))) kt
set_option maxRecDepth 65536 in
set_option maxHeartbeats 400000000 in
theorem inn3_4 (l : Launch) (Z : State) (a0 : Array Value) (hw : ∀ d ∈ tables_1, d.before a0 Z = true) (o : Addr) (q0 : Addr) (q1 : Addr) (g0 : Int32) (g1 : Int32) (g2 : Int32) (g3 : Int32) (s0 : UInt64) (s1 : UInt64) (s2 : UInt64) (s3 : UInt64) (x0 : UInt64) (x1 : UInt64) (x2 : UInt64) (x3 : UInt64) (shA : Addr) (mA : Addr) (sA : Addr) (k1 : ClassId) (k2 : ClassId) (ks : ClassId) (kx : ClassId) (j : Int32) (sm : UInt64) (Q : Option Value → Heap → Prop) (h0 hc : Heap) (n0 : Nat) (Z0 : n0 ≤ hc.size) (XB : Ext h0 hc) (E_o : Exa Z hc o "com/example/sieve_for_links/sieveforlinks/VirtualLinks") (F_shares : Fld Z hc o "com/example/sieve_for_links/sieveforlinks/VirtualLinks" "shares" "[D" (.ref shA)) (F_members : Fld Z hc o "com/example/sieve_for_links/sieveforlinks/VirtualLinks" "members" "[I" (.ref mA)) (F_memberStarts : Fld Z hc o "com/example/sieve_for_links/sieveforlinks/VirtualLinks" "memberStarts" "[I" (.ref sA)) (B_sA : Arv Z hc sA k1 .int (5 : Int32) ((own_SL g0 g1 g2 g3).map Value.int) (.int (0 : Int32))) (B_mA : Arv Z hc mA k2 .int (own_T g0 g1 g2 g3) ((own_ML g0 g1 g2 g3).map Value.int) (.int (0 : Int32))) (A_shA : Arv Z hc shA ks .double (4 : Int32) [(.double s0), (.double s1), (.double s2), (.double s3)] (.double (0 : UInt64))) (A_q0 : Arv Z hc q0 kx .double (4 : Int32) [(.double x0), (.double x1), (.double x2), (.double x3)] (.double (0 : UInt64))) (hg0 : own_G g0) (hg1 : own_G g1) (hg2 : own_G g2) (hg3 : own_G g3) (hM : ∀ i, Mag64 1024 ([s0, s1, s2, s3].getD i 0)) (hX : ∀ i, Mag64 1056 ([x0, x1, x2, x3].getD i 0)) (h0j : 0 ≤ j.toInt) (hj : j.toInt + 4 = ((own_SL g0 g1 g2 g3).getD 4 0).toInt) (hs : NoNaN64 sm) (kt : GoB6 l Z n0 Q hc 0 0 74 #[.val (.ref o), .val (.ref q0), .val (.ref q1), .val (.int (3 : Int32)), .val (.double (own_fold [s0, s1, s2, s3] [x0, x1, x2, x3] (own_ML g0 g1 g2 g3) 4 j sm)), .second, .val (.int (own_jn 4 j))] []) :
    GoB6 l Z n0 Q hc 0 0 28 #[.val (.ref o), .val (.ref q0), .val (.ref q1), .val (.int (3 : Int32)), .val (.double sm), .second, .val (.int j)] [] := by
  refine OwnW.iload (pc' := 30) d6_28 rfl rfl ?_
  refine OwnW.aloadN (pc' := 31) d6_30 rfl (rfl) rfl ?_
  refine OwnW.getF (a0 := a0) (pc' := 34) d6_31 (host := "") (Or.inl (hw _ (List.mem_of_getElem? (i := 33) rfl))) Via.refl F_memberStarts rfl ?_
  refine OwnW.iloadN (pc' := 35) d6_34 rfl rfl ?_
  refine OwnW.iconst (pc' := 36) (v := (1 : Int32)) d6_35 rfl rfl ?_
  refine OwnW.iadd (pc' := 37) d6_36 rfl ?_
  show GoB6 l Z n0 Q hc 0 0 37 #[.val (.ref o), .val (.ref q0), .val (.ref q1), .val (.int (3 : Int32)), .val (.double sm), .second, .val (.int j)] [(.int (4 : Int32)), (.ref sA), (.int j)]
  obtain ⟨cl1, Ar1, qk1, Sz1, Mn1, Hv1, Gf1⟩ := id B_sA
  refine OwnW.iaload (pc' := 38) (v := .int ((own_SL g0 g1 g2 g3).getD 4 0)) d6_37 Ar1 (inb_of Sz1 ⟨by decide, by decide⟩) (Hv1.at (inb_of Sz1 ⟨by decide, by decide⟩) (own_gd (own_SL g0 g1 g2 g3) 4)) rfl ?_
  show GoB6 l Z n0 Q hc 0 0 38 #[.val (.ref o), .val (.ref q0), .val (.ref q1), .val (.int (3 : Int32)), .val (.double sm), .second, .val (.int j)] [(.int ((own_SL g0 g1 g2 g3).getD 4 0)), (.int j)]
  refine OwnW.icmpN (pc' := 41) d6_38 (tlt (own_lt hj)).2.1 rfl ?_
  refine OwnW.dload (pc' := 43) d6_41 rfl rfl ?_
  refine OwnW.aloadN (pc' := 44) d6_43 rfl (rfl) rfl ?_
  refine OwnW.getF (a0 := a0) (pc' := 47) d6_44 (host := "") (Or.inl (hw _ (List.mem_of_getElem? (i := 29) rfl))) Via.refl F_shares rfl ?_
  refine OwnW.aloadN (pc' := 48) d6_47 rfl (rfl) rfl ?_
  refine OwnW.getF (a0 := a0) (pc' := 51) d6_48 (host := "") (Or.inl (hw _ (List.mem_of_getElem? (i := 31) rfl))) Via.refl F_members rfl ?_
  refine OwnW.iload (pc' := 53) d6_51 rfl rfl ?_
  obtain ⟨cl2, Ar2, qk2, Sz2, Mn2, Hv2, Gf2⟩ := id B_mA
  refine OwnW.iaload (pc' := 54) (v := .int ((own_ML g0 g1 g2 g3).getD j.toNatClampNeg 0)) d6_53 Ar2 (inb_of Sz2 (own_jT3 hg0 hg1 hg2 hg3 h0j hj)) (Hv2.at (inb_of Sz2 (own_jT3 hg0 hg1 hg2 hg3 h0j hj)) (own_gd (own_ML g0 g1 g2 g3) j.toNatClampNeg)) rfl ?_
  show GoB6 l Z n0 Q hc 0 0 54 #[.val (.ref o), .val (.ref q0), .val (.ref q1), .val (.int (3 : Int32)), .val (.double sm), .second, .val (.int j)] [(.int ((own_ML g0 g1 g2 g3).getD j.toNatClampNeg 0)), (.ref shA), (.double sm)]
  obtain ⟨cl3, Ar3, qk3, Sz3, Mn3, Hv3, Gf3⟩ := id A_shA
  refine OwnW.daload (pc' := 55) (v := .double ([s0, s1, s2, s3].getD ((own_ML g0 g1 g2 g3).getD j.toNatClampNeg 0).toNatClampNeg 0)) d6_54 Ar3 (inb_of Sz3 (own_q hg0 hg1 hg2 hg3 _)) (Hv3.at (inb_of Sz3 (own_q hg0 hg1 hg2 hg3 _)) (own_gdD [s0, s1, s2, s3] ((own_ML g0 g1 g2 g3).getD j.toNatClampNeg 0).toNatClampNeg)) rfl ?_
  show GoB6 l Z n0 Q hc 0 0 55 #[.val (.ref o), .val (.ref q0), .val (.ref q1), .val (.int (3 : Int32)), .val (.double sm), .second, .val (.int j)] [(.double ([s0, s1, s2, s3].getD ((own_ML g0 g1 g2 g3).getD j.toNatClampNeg 0).toNatClampNeg 0)), (.double sm)]
  refine OwnW.aloadN (pc' := 56) d6_55 rfl (rfl) rfl ?_
  refine OwnW.aloadN (pc' := 57) d6_56 rfl (rfl) rfl ?_
  refine OwnW.getF (a0 := a0) (pc' := 60) d6_57 (host := "") (Or.inl (hw _ (List.mem_of_getElem? (i := 31) rfl))) Via.refl F_members rfl ?_
  refine OwnW.iload (pc' := 62) d6_60 rfl rfl ?_
  obtain ⟨cl4, Ar4, qk4, Sz4, Mn4, Hv4, Gf4⟩ := id B_mA
  refine OwnW.iaload (pc' := 63) (v := .int ((own_ML g0 g1 g2 g3).getD j.toNatClampNeg 0)) d6_62 Ar4 (inb_of Sz4 (own_jT3 hg0 hg1 hg2 hg3 h0j hj)) (Hv4.at (inb_of Sz4 (own_jT3 hg0 hg1 hg2 hg3 h0j hj)) (own_gd (own_ML g0 g1 g2 g3) j.toNatClampNeg)) rfl ?_
  show GoB6 l Z n0 Q hc 0 0 63 #[.val (.ref o), .val (.ref q0), .val (.ref q1), .val (.int (3 : Int32)), .val (.double sm), .second, .val (.int j)] [(.int ((own_ML g0 g1 g2 g3).getD j.toNatClampNeg 0)), (.ref q0), (.double ([s0, s1, s2, s3].getD ((own_ML g0 g1 g2 g3).getD j.toNatClampNeg 0).toNatClampNeg 0)), (.double sm)]
  obtain ⟨cl5, Ar5, qk5, Sz5, Mn5, Hv5, Gf5⟩ := id A_q0
  refine OwnW.daload (pc' := 64) (v := .double ([x0, x1, x2, x3].getD ((own_ML g0 g1 g2 g3).getD j.toNatClampNeg 0).toNatClampNeg 0)) d6_63 Ar5 (inb_of Sz5 (own_q hg0 hg1 hg2 hg3 _)) (Hv5.at (inb_of Sz5 (own_q hg0 hg1 hg2 hg3 _)) (own_gdD [x0, x1, x2, x3] ((own_ML g0 g1 g2 g3).getD j.toNatClampNeg 0).toNatClampNeg)) rfl ?_
  show GoB6 l Z n0 Q hc 0 0 64 #[.val (.ref o), .val (.ref q0), .val (.ref q1), .val (.int (3 : Int32)), .val (.double sm), .second, .val (.int j)] [(.double ([x0, x1, x2, x3].getD ((own_ML g0 g1 g2 g3).getD j.toNatClampNeg 0).toNatClampNeg 0)), (.double ([s0, s1, s2, s3].getD ((own_ML g0 g1 g2 g3).getD j.toNatClampNeg 0).toNatClampNeg 0)), (.double sm)]
  refine OwnW.dmul (pc' := 65) d6_64 (dmul_out ((hM _).fin (by decide)) ((hX _).fin (by decide))) rfl rfl ?_
  refine OwnW.dadd (pc' := 66) d6_65 (dadd_out hs ((dmul_mag (hM _) (hX _) (by decide) (by decide)).fin (by decide))) rfl rfl ?_
  refine OwnW.dstore (pc' := 68) (L' := #[.val (.ref o), .val (.ref q0), .val (.ref q1), .val (.int (3 : Int32)), .val (.double (FP.dadd sm (FP.dmul ([s0, s1, s2, s3].getD ((own_ML g0 g1 g2 g3).getD j.toNatClampNeg 0).toNatClampNeg 0) ([x0, x1, x2, x3].getD ((own_ML g0 g1 g2 g3).getD j.toNatClampNeg 0).toNatClampNeg 0)))), .second, .val (.int j)]) d6_66 rfl rfl ?_
  refine OwnW.iinc (pc' := 71) (L' := #[.val (.ref o), .val (.ref q0), .val (.ref q1), .val (.int (3 : Int32)), .val (.double (FP.dadd sm (FP.dmul ([s0, s1, s2, s3].getD ((own_ML g0 g1 g2 g3).getD j.toNatClampNeg 0).toNatClampNeg 0) ([x0, x1, x2, x3].getD ((own_ML g0 g1 g2 g3).getD j.toNatClampNeg 0).toNatClampNeg 0)))), .second, .val (.int (j + (1 : Int32)))]) (d := (1 : Int32)) d6_68 rfl rfl rfl rfl ?_
  refine OwnW.goto (pc' := 28) d6_71 (by decide) (by decide) ?_
  exact inn3_3 l Z a0 hw o q0 q1 g0 g1 g2 g3 s0 s1 s2 s3 x0 x1 x2 x3 shA mA sA k1 k2 ks kx (j + (1 : Int32)) (FP.dadd sm (FP.dmul ([s0, s1, s2, s3].getD ((own_ML g0 g1 g2 g3).getD j.toNatClampNeg 0).toNatClampNeg 0) ([x0, x1, x2, x3].getD ((own_ML g0 g1 g2 g3).getD j.toNatClampNeg 0).toNatClampNeg 0))) Q h0 hc n0 Z0 XB E_o F_shares F_members F_memberStarts B_sA B_mA A_shA A_q0 hg0 hg1 hg2 hg3 hM hX (own_j0 h0j hj) (own_j1 h0j hj) (dadd_out hs ((dmul_mag (hM _) (hX _) (by decide) (by decide)).fin (by decide))) kt
theorem inn1 (l : Launch) (Z : State) (a0 : Array Value) (hw : ∀ d ∈ tables_1, d.before a0 Z = true) (o : Addr) (q0 : Addr) (q1 : Addr) (g0 : Int32) (g1 : Int32) (g2 : Int32) (g3 : Int32) (s0 : UInt64) (s1 : UInt64) (s2 : UInt64) (s3 : UInt64) (x0 : UInt64) (x1 : UInt64) (x2 : UInt64) (x3 : UInt64) (shA : Addr) (mA : Addr) (sA : Addr) (k1 : ClassId) (k2 : ClassId) (ks : ClassId) (kx : ClassId) (j : Int32) (sm : UInt64) (Q : Option Value → Heap → Prop) (h0 hc : Heap) (n0 : Nat) (Z0 : n0 ≤ hc.size) (XB : Ext h0 hc) (E_o : Exa Z hc o "com/example/sieve_for_links/sieveforlinks/VirtualLinks") (F_shares : Fld Z hc o "com/example/sieve_for_links/sieveforlinks/VirtualLinks" "shares" "[D" (.ref shA)) (F_members : Fld Z hc o "com/example/sieve_for_links/sieveforlinks/VirtualLinks" "members" "[I" (.ref mA)) (F_memberStarts : Fld Z hc o "com/example/sieve_for_links/sieveforlinks/VirtualLinks" "memberStarts" "[I" (.ref sA)) (B_sA : Arv Z hc sA k1 .int (5 : Int32) ((own_SL g0 g1 g2 g3).map Value.int) (.int (0 : Int32))) (B_mA : Arv Z hc mA k2 .int (own_T g0 g1 g2 g3) ((own_ML g0 g1 g2 g3).map Value.int) (.int (0 : Int32))) (A_shA : Arv Z hc shA ks .double (4 : Int32) [(.double s0), (.double s1), (.double s2), (.double s3)] (.double (0 : UInt64))) (A_q0 : Arv Z hc q0 kx .double (4 : Int32) [(.double x0), (.double x1), (.double x2), (.double x3)] (.double (0 : UInt64))) (hg0 : own_G g0) (hg1 : own_G g1) (hg2 : own_G g2) (hg3 : own_G g3) (hM : ∀ i, Mag64 1024 ([s0, s1, s2, s3].getD i 0)) (hX : ∀ i, Mag64 1056 ([x0, x1, x2, x3].getD i 0)) (n : Nat) (hn : n ≤ 4) (h0j : 0 ≤ j.toInt) (hj : j.toInt + (n : Int) = ((own_SL g0 g1 g2 g3).getD 2 0).toInt) (hs : NoNaN64 sm) (kt : GoB6 l Z n0 Q hc 0 0 74 #[.val (.ref o), .val (.ref q0), .val (.ref q1), .val (.int (1 : Int32)), .val (.double (own_fold [s0, s1, s2, s3] [x0, x1, x2, x3] (own_ML g0 g1 g2 g3) n j sm)), .second, .val (.int (own_jn n j))] []) : GoB6 l Z n0 Q hc 0 0 28 #[.val (.ref o), .val (.ref q0), .val (.ref q1), .val (.int (1 : Int32)), .val (.double sm), .second, .val (.int j)] [] := by
  obtain rfl | rfl | rfl | rfl | rfl : n = 0 ∨ n = 1 ∨ n = 2 ∨ n = 3 ∨ n = 4 := by omega
  · exact inn1_0 l Z a0 hw o q0 q1 g0 g1 g2 g3 s0 s1 s2 s3 x0 x1 x2 x3 shA mA sA k1 k2 ks kx j sm Q h0 hc n0 Z0 XB E_o F_shares F_members F_memberStarts B_sA B_mA A_shA A_q0 hg0 hg1 hg2 hg3 hM hX h0j hj hs kt
  · exact inn1_1 l Z a0 hw o q0 q1 g0 g1 g2 g3 s0 s1 s2 s3 x0 x1 x2 x3 shA mA sA k1 k2 ks kx j sm Q h0 hc n0 Z0 XB E_o F_shares F_members F_memberStarts B_sA B_mA A_shA A_q0 hg0 hg1 hg2 hg3 hM hX h0j hj hs kt
  · exact inn1_2 l Z a0 hw o q0 q1 g0 g1 g2 g3 s0 s1 s2 s3 x0 x1 x2 x3 shA mA sA k1 k2 ks kx j sm Q h0 hc n0 Z0 XB E_o F_shares F_members F_memberStarts B_sA B_mA A_shA A_q0 hg0 hg1 hg2 hg3 hM hX h0j hj hs kt
  · exact inn1_3 l Z a0 hw o q0 q1 g0 g1 g2 g3 s0 s1 s2 s3 x0 x1 x2 x3 shA mA sA k1 k2 ks kx j sm Q h0 hc n0 Z0 XB E_o F_shares F_members F_memberStarts B_sA B_mA A_shA A_q0 hg0 hg1 hg2 hg3 hM hX h0j hj hs kt
  · exact inn1_4 l Z a0 hw o q0 q1 g0 g1 g2 g3 s0 s1 s2 s3 x0 x1 x2 x3 shA mA sA k1 k2 ks kx j sm Q h0 hc n0 Z0 XB E_o F_shares F_members F_memberStarts B_sA B_mA A_shA A_q0 hg0 hg1 hg2 hg3 hM hX h0j hj hs kt
theorem inn2 (l : Launch) (Z : State) (a0 : Array Value) (hw : ∀ d ∈ tables_1, d.before a0 Z = true) (o : Addr) (q0 : Addr) (q1 : Addr) (g0 : Int32) (g1 : Int32) (g2 : Int32) (g3 : Int32) (s0 : UInt64) (s1 : UInt64) (s2 : UInt64) (s3 : UInt64) (x0 : UInt64) (x1 : UInt64) (x2 : UInt64) (x3 : UInt64) (shA : Addr) (mA : Addr) (sA : Addr) (k1 : ClassId) (k2 : ClassId) (ks : ClassId) (kx : ClassId) (j : Int32) (sm : UInt64) (Q : Option Value → Heap → Prop) (h0 hc : Heap) (n0 : Nat) (Z0 : n0 ≤ hc.size) (XB : Ext h0 hc) (E_o : Exa Z hc o "com/example/sieve_for_links/sieveforlinks/VirtualLinks") (F_shares : Fld Z hc o "com/example/sieve_for_links/sieveforlinks/VirtualLinks" "shares" "[D" (.ref shA)) (F_members : Fld Z hc o "com/example/sieve_for_links/sieveforlinks/VirtualLinks" "members" "[I" (.ref mA)) (F_memberStarts : Fld Z hc o "com/example/sieve_for_links/sieveforlinks/VirtualLinks" "memberStarts" "[I" (.ref sA)) (B_sA : Arv Z hc sA k1 .int (5 : Int32) ((own_SL g0 g1 g2 g3).map Value.int) (.int (0 : Int32))) (B_mA : Arv Z hc mA k2 .int (own_T g0 g1 g2 g3) ((own_ML g0 g1 g2 g3).map Value.int) (.int (0 : Int32))) (A_shA : Arv Z hc shA ks .double (4 : Int32) [(.double s0), (.double s1), (.double s2), (.double s3)] (.double (0 : UInt64))) (A_q0 : Arv Z hc q0 kx .double (4 : Int32) [(.double x0), (.double x1), (.double x2), (.double x3)] (.double (0 : UInt64))) (hg0 : own_G g0) (hg1 : own_G g1) (hg2 : own_G g2) (hg3 : own_G g3) (hM : ∀ i, Mag64 1024 ([s0, s1, s2, s3].getD i 0)) (hX : ∀ i, Mag64 1056 ([x0, x1, x2, x3].getD i 0)) (n : Nat) (hn : n ≤ 4) (h0j : 0 ≤ j.toInt) (hj : j.toInt + (n : Int) = ((own_SL g0 g1 g2 g3).getD 3 0).toInt) (hs : NoNaN64 sm) (kt : GoB6 l Z n0 Q hc 0 0 74 #[.val (.ref o), .val (.ref q0), .val (.ref q1), .val (.int (2 : Int32)), .val (.double (own_fold [s0, s1, s2, s3] [x0, x1, x2, x3] (own_ML g0 g1 g2 g3) n j sm)), .second, .val (.int (own_jn n j))] []) : GoB6 l Z n0 Q hc 0 0 28 #[.val (.ref o), .val (.ref q0), .val (.ref q1), .val (.int (2 : Int32)), .val (.double sm), .second, .val (.int j)] [] := by
  obtain rfl | rfl | rfl | rfl | rfl : n = 0 ∨ n = 1 ∨ n = 2 ∨ n = 3 ∨ n = 4 := by omega
  · exact inn2_0 l Z a0 hw o q0 q1 g0 g1 g2 g3 s0 s1 s2 s3 x0 x1 x2 x3 shA mA sA k1 k2 ks kx j sm Q h0 hc n0 Z0 XB E_o F_shares F_members F_memberStarts B_sA B_mA A_shA A_q0 hg0 hg1 hg2 hg3 hM hX h0j hj hs kt
  · exact inn2_1 l Z a0 hw o q0 q1 g0 g1 g2 g3 s0 s1 s2 s3 x0 x1 x2 x3 shA mA sA k1 k2 ks kx j sm Q h0 hc n0 Z0 XB E_o F_shares F_members F_memberStarts B_sA B_mA A_shA A_q0 hg0 hg1 hg2 hg3 hM hX h0j hj hs kt
  · exact inn2_2 l Z a0 hw o q0 q1 g0 g1 g2 g3 s0 s1 s2 s3 x0 x1 x2 x3 shA mA sA k1 k2 ks kx j sm Q h0 hc n0 Z0 XB E_o F_shares F_members F_memberStarts B_sA B_mA A_shA A_q0 hg0 hg1 hg2 hg3 hM hX h0j hj hs kt
  · exact inn2_3 l Z a0 hw o q0 q1 g0 g1 g2 g3 s0 s1 s2 s3 x0 x1 x2 x3 shA mA sA k1 k2 ks kx j sm Q h0 hc n0 Z0 XB E_o F_shares F_members F_memberStarts B_sA B_mA A_shA A_q0 hg0 hg1 hg2 hg3 hM hX h0j hj hs kt
  · exact inn2_4 l Z a0 hw o q0 q1 g0 g1 g2 g3 s0 s1 s2 s3 x0 x1 x2 x3 shA mA sA k1 k2 ks kx j sm Q h0 hc n0 Z0 XB E_o F_shares F_members F_memberStarts B_sA B_mA A_shA A_q0 hg0 hg1 hg2 hg3 hM hX h0j hj hs kt
theorem inn3 (l : Launch) (Z : State) (a0 : Array Value) (hw : ∀ d ∈ tables_1, d.before a0 Z = true) (o : Addr) (q0 : Addr) (q1 : Addr) (g0 : Int32) (g1 : Int32) (g2 : Int32) (g3 : Int32) (s0 : UInt64) (s1 : UInt64) (s2 : UInt64) (s3 : UInt64) (x0 : UInt64) (x1 : UInt64) (x2 : UInt64) (x3 : UInt64) (shA : Addr) (mA : Addr) (sA : Addr) (k1 : ClassId) (k2 : ClassId) (ks : ClassId) (kx : ClassId) (j : Int32) (sm : UInt64) (Q : Option Value → Heap → Prop) (h0 hc : Heap) (n0 : Nat) (Z0 : n0 ≤ hc.size) (XB : Ext h0 hc) (E_o : Exa Z hc o "com/example/sieve_for_links/sieveforlinks/VirtualLinks") (F_shares : Fld Z hc o "com/example/sieve_for_links/sieveforlinks/VirtualLinks" "shares" "[D" (.ref shA)) (F_members : Fld Z hc o "com/example/sieve_for_links/sieveforlinks/VirtualLinks" "members" "[I" (.ref mA)) (F_memberStarts : Fld Z hc o "com/example/sieve_for_links/sieveforlinks/VirtualLinks" "memberStarts" "[I" (.ref sA)) (B_sA : Arv Z hc sA k1 .int (5 : Int32) ((own_SL g0 g1 g2 g3).map Value.int) (.int (0 : Int32))) (B_mA : Arv Z hc mA k2 .int (own_T g0 g1 g2 g3) ((own_ML g0 g1 g2 g3).map Value.int) (.int (0 : Int32))) (A_shA : Arv Z hc shA ks .double (4 : Int32) [(.double s0), (.double s1), (.double s2), (.double s3)] (.double (0 : UInt64))) (A_q0 : Arv Z hc q0 kx .double (4 : Int32) [(.double x0), (.double x1), (.double x2), (.double x3)] (.double (0 : UInt64))) (hg0 : own_G g0) (hg1 : own_G g1) (hg2 : own_G g2) (hg3 : own_G g3) (hM : ∀ i, Mag64 1024 ([s0, s1, s2, s3].getD i 0)) (hX : ∀ i, Mag64 1056 ([x0, x1, x2, x3].getD i 0)) (n : Nat) (hn : n ≤ 4) (h0j : 0 ≤ j.toInt) (hj : j.toInt + (n : Int) = ((own_SL g0 g1 g2 g3).getD 4 0).toInt) (hs : NoNaN64 sm) (kt : GoB6 l Z n0 Q hc 0 0 74 #[.val (.ref o), .val (.ref q0), .val (.ref q1), .val (.int (3 : Int32)), .val (.double (own_fold [s0, s1, s2, s3] [x0, x1, x2, x3] (own_ML g0 g1 g2 g3) n j sm)), .second, .val (.int (own_jn n j))] []) : GoB6 l Z n0 Q hc 0 0 28 #[.val (.ref o), .val (.ref q0), .val (.ref q1), .val (.int (3 : Int32)), .val (.double sm), .second, .val (.int j)] [] := by
  obtain rfl | rfl | rfl | rfl | rfl : n = 0 ∨ n = 1 ∨ n = 2 ∨ n = 3 ∨ n = 4 := by omega
  · exact inn3_0 l Z a0 hw o q0 q1 g0 g1 g2 g3 s0 s1 s2 s3 x0 x1 x2 x3 shA mA sA k1 k2 ks kx j sm Q h0 hc n0 Z0 XB E_o F_shares F_members F_memberStarts B_sA B_mA A_shA A_q0 hg0 hg1 hg2 hg3 hM hX h0j hj hs kt
  · exact inn3_1 l Z a0 hw o q0 q1 g0 g1 g2 g3 s0 s1 s2 s3 x0 x1 x2 x3 shA mA sA k1 k2 ks kx j sm Q h0 hc n0 Z0 XB E_o F_shares F_members F_memberStarts B_sA B_mA A_shA A_q0 hg0 hg1 hg2 hg3 hM hX h0j hj hs kt
  · exact inn3_2 l Z a0 hw o q0 q1 g0 g1 g2 g3 s0 s1 s2 s3 x0 x1 x2 x3 shA mA sA k1 k2 ks kx j sm Q h0 hc n0 Z0 XB E_o F_shares F_members F_memberStarts B_sA B_mA A_shA A_q0 hg0 hg1 hg2 hg3 hM hX h0j hj hs kt
  · exact inn3_3 l Z a0 hw o q0 q1 g0 g1 g2 g3 s0 s1 s2 s3 x0 x1 x2 x3 shA mA sA k1 k2 ks kx j sm Q h0 hc n0 Z0 XB E_o F_shares F_members F_memberStarts B_sA B_mA A_shA A_q0 hg0 hg1 hg2 hg3 hM hX h0j hj hs kt
  · exact inn3_4 l Z a0 hw o q0 q1 g0 g1 g2 g3 s0 s1 s2 s3 x0 x1 x2 x3 shA mA sA k1 k2 ks kx j sm Q h0 hc n0 Z0 XB E_o F_shares F_members F_memberStarts B_sA B_mA A_shA A_q0 hg0 hg1 hg2 hg3 hM hX h0j hj hs kt
theorem ef6 (m : MethodId) (o : Addr) (q0 : Addr) (q1 : Addr) : entryFrame m #[(.ref o), (.ref q0), (.ref q1)] 7 = mkF m 0 #[.val (.ref o), .val (.ref q0), .val (.ref q1), .unset, .unset, .unset, .unset] [] := by first | (simp [entryFrame, mkF, argsToLocals, Value.category]; done) | rfl
set_option maxRecDepth 65536 in
set_option maxHeartbeats 40000000 in
theorem rm6 (l : Launch) (Z : State) (a0 : Array Value) (hw : ∀ d ∈ tables_1, d.before a0 Z = true) (o : Addr) (q0 : Addr) (q1 : Addr) (g0 : Int32) (g1 : Int32) (g2 : Int32) (g3 : Int32) (s0 : UInt64) (s1 : UInt64) (s2 : UInt64) (s3 : UInt64) (x0 : UInt64) (x1 : UInt64) (x2 : UInt64) (x3 : UInt64) (shA : Addr) (mA : Addr) (sA : Addr) (k1 : ClassId) (k2 : ClassId) (ks : ClassId) (kx : ClassId) (ko : ClassId) (h0 : Heap) (n0 : Nat) (Z0 : n0 ≤ h0.size) (g_q1 : n0 ≤ q1) (E_o : Exa Z h0 o "com/example/sieve_for_links/sieveforlinks/VirtualLinks") (F_shares : Fld Z h0 o "com/example/sieve_for_links/sieveforlinks/VirtualLinks" "shares" "[D" (.ref shA)) (F_members : Fld Z h0 o "com/example/sieve_for_links/sieveforlinks/VirtualLinks" "members" "[I" (.ref mA)) (F_memberStarts : Fld Z h0 o "com/example/sieve_for_links/sieveforlinks/VirtualLinks" "memberStarts" "[I" (.ref sA)) (B_sA : Arv Z h0 sA k1 .int (5 : Int32) ((own_SL g0 g1 g2 g3).map Value.int) (.int (0 : Int32))) (B_mA : Arv Z h0 mA k2 .int (own_T g0 g1 g2 g3) ((own_ML g0 g1 g2 g3).map Value.int) (.int (0 : Int32))) (A_shA : Arv Z h0 shA ks .double (4 : Int32) [(.double s0), (.double s1), (.double s2), (.double s3)] (.double (0 : UInt64))) (A_q0 : Arv Z h0 q0 kx .double (4 : Int32) [(.double x0), (.double x1), (.double x2), (.double x3)] (.double (0 : UInt64))) (A_q1 : Arv Z h0 q1 ko .double (4 : Int32) [(.double (4619567317775286272 : UInt64)), (.double (4619567317775286272 : UInt64)), (.double (4619567317775286272 : UInt64)), (.double (4619567317775286272 : UInt64))] (.double (0 : UInt64))) (hg0 : own_G g0) (hg1 : own_G g1) (hg2 : own_G g2) (hg3 : own_G g3) (hM : ∀ i, Mag64 1024 ([s0, s1, s2, s3].getD i 0)) (hX : ∀ i, Mag64 1056 ([x0, x1, x2, x3].getD i 0)) (ne_q1_o : q1 ≠ o) (ne_q1_shA : q1 ≠ shA) (ne_q1_mA : q1 ≠ mA) (ne_q1_sA : q1 ≠ sA) (ne_q1_q0 : q1 ≠ q0) :
    Con l Z ({ frames := 0, cells := 0, slots := 0, locals := 0 } : Room) (⟨"com/example/sieve_for_links/sieveforlinks/VirtualLinks", "spread", "([D[D)V"⟩ : MethodName) prog_33_method_7_code 7 none n0 #[(.ref o), (.ref q0), (.ref q1)] h0 (Q6 Z o q0 q1 g0 g1 g2 g3 s0 s1 s2 s3 x0 x1 x2 x3 shA mA sA k1 k2 ks kx ko h0) := by
  refine OwnW.Con.of (by first | decide +kernel | exact plainFor_of_name (by simp [plainName, overriddenIn])) (fun m => ef6 m o q0 q1) ?_
  show GoB6 l Z n0 (Q6 Z o q0 q1 g0 g1 g2 g3 s0 s1 s2 s3 x0 x1 x2 x3 shA mA sA k1 k2 ks kx ko h0) h0 0 0 0 #[.val (.ref o), .val (.ref q0), .val (.ref q1), .unset, .unset, .unset, .unset] []
  refine OwnW.aloadN (pc' := 1) d6_0 rfl (rfl) rfl ?_
  refine OwnW.iconst (pc' := 2) (v := (0 : Int32)) d6_1 rfl rfl ?_
  refine OwnW.dconst0 (pc' := 3) (v := (0 : UInt64)) d6_2 (by decide +kernel) rfl ?_
  obtain ⟨cl1, Ar1, qk1, Sz1, Mn1, Hv1, Gf1⟩ := id A_q1
  refine OwnW.stD (pc' := 4) d6_3 Ar1 (inb_of Sz1 ⟨by decide, by decide⟩) g_q1 rfl ?_
  intro h1 W1
  have sz2 : n0 ≤ h1.size := (by rw [W1.size]; exact Z0)
  have V1 : Arv Z h1 q1 ko .double (4 : Int32) [(.double (0 : UInt64)), (.double (4619567317775286272 : UInt64)), (.double (4619567317775286272 : UInt64)), (.double (4619567317775286272 : UInt64))] (.double (0 : UInt64)) := Arv.set Ar1 qk1 Sz1 Mn1 Hv1 Gf1 rfl W1 0 rfl (Nat.le_of_ble_eq_true rfl)
  refine OwnW.iconst (pc' := 5) (v := (1 : Int32)) d6_4 rfl rfl ?_
  refine OwnW.istoreN (pc' := 6) (L' := #[.val (.ref o), .val (.ref q0), .val (.ref q1), .val (.int (1 : Int32)), .unset, .unset, .unset]) d6_5 rfl rfl ?_
  refine OwnW.iloadN (pc' := 7) d6_6 rfl rfl ?_
  refine OwnW.aloadN (pc' := 8) d6_7 rfl (rfl) rfl ?_
  have F3 := (F_memberStarts.other W1 (Or.inl (Ne.symm ne_q1_o)))
  refine OwnW.getF (a0 := a0) (pc' := 11) d6_8 (host := "") (Or.inl (hw _ (List.mem_of_getElem? (i := 33) rfl))) Via.refl F3 rfl ?_
  have F4 := (B_sA.other W1 (Ne.symm ne_q1_sA))
  obtain ⟨cl5, Ar5, qk5, Sz5, Mn5, Hv5, Gf5⟩ := id F4
  refine OwnW.alen (pc' := 12) (x := (5 : Int32)) d6_11 Ar5 (len_of Sz5 Mn5) rfl ?_
  show GoB6 l Z n0 (Q6 Z o q0 q1 g0 g1 g2 g3 s0 s1 s2 s3 x0 x1 x2 x3 shA mA sA k1 k2 ks kx ko h0) h1 0 0 12 #[.val (.ref o), .val (.ref q0), .val (.ref q1), .val (.int (1 : Int32)), .unset, .unset, .unset] [(.int (5 : Int32)), (.int (1 : Int32))]
  refine OwnW.iconst (pc' := 13) (v := (1 : Int32)) d6_12 rfl rfl ?_
  refine OwnW.isub (pc' := 14) d6_13 rfl ?_
  show GoB6 l Z n0 (Q6 Z o q0 q1 g0 g1 g2 g3 s0 s1 s2 s3 x0 x1 x2 x3 shA mA sA k1 k2 ks kx ko h0) h1 0 0 14 #[.val (.ref o), .val (.ref q0), .val (.ref q1), .val (.int (1 : Int32)), .unset, .unset, .unset] [(.int (4 : Int32)), (.int (1 : Int32))]
  refine OwnW.icmpN (pc' := 17) d6_14 (tlt (by decide)).2.1 rfl ?_
  refine OwnW.dconst0 (pc' := 18) (v := (0 : UInt64)) d6_17 (by decide +kernel) rfl ?_
  refine OwnW.dstore (pc' := 20) (L' := #[.val (.ref o), .val (.ref q0), .val (.ref q1), .val (.int (1 : Int32)), .val (.double (0 : UInt64)), .second, .unset]) d6_18 rfl rfl ?_
  refine OwnW.aloadN (pc' := 21) d6_20 rfl (rfl) rfl ?_
  refine OwnW.getF (a0 := a0) (pc' := 24) d6_21 (host := "") (Or.inl (hw _ (List.mem_of_getElem? (i := 33) rfl))) Via.refl F3 rfl ?_
  refine OwnW.iloadN (pc' := 25) d6_24 rfl rfl ?_
  obtain ⟨cl6, Ar6, qk6, Sz6, Mn6, Hv6, Gf6⟩ := id F4
  refine OwnW.iaload (pc' := 26) (v := .int ((own_SL g0 g1 g2 g3).getD 1 0)) d6_25 Ar6 (inb_of Sz6 ⟨by decide, by decide⟩) (Hv6.at (inb_of Sz6 ⟨by decide, by decide⟩) (own_gd (own_SL g0 g1 g2 g3) 1)) rfl ?_
  show GoB6 l Z n0 (Q6 Z o q0 q1 g0 g1 g2 g3 s0 s1 s2 s3 x0 x1 x2 x3 shA mA sA k1 k2 ks kx ko h0) h1 0 0 26 #[.val (.ref o), .val (.ref q0), .val (.ref q1), .val (.int (1 : Int32)), .val (.double (0 : UInt64)), .second, .unset] [(.int ((own_SL g0 g1 g2 g3).getD 1 0))]
  refine OwnW.istore (pc' := 28) (L' := #[.val (.ref o), .val (.ref q0), .val (.ref q1), .val (.int (1 : Int32)), .val (.double (0 : UInt64)), .second, .val (.int ((own_SL g0 g1 g2 g3).getD 1 0))]) d6_26 rfl rfl ?_
  have F7 := (E_o.wr W1)
  have F8 := (F_shares.other W1 (Or.inl (Ne.symm ne_q1_o)))
  have F9 := (F_members.other W1 (Or.inl (Ne.symm ne_q1_o)))
  have F10 := (B_mA.other W1 (Ne.symm ne_q1_mA))
  have F11 := (A_shA.other W1 (Ne.symm ne_q1_shA))
  have F12 := (A_q0.other W1 (Ne.symm ne_q1_q0))
  refine inn1 l Z a0 hw o q0 q1 g0 g1 g2 g3 s0 s1 s2 s3 x0 x1 x2 x3 shA mA sA k1 k2 ks kx ((own_SL g0 g1 g2 g3).getD 1 0) (0 : UInt64) (Q6 Z o q0 q1 g0 g1 g2 g3 s0 s1 s2 s3 x0 x1 x2 x3 shA mA sA k1 k2 ks kx ko h0) h1 h1 n0 sz2 (OwnW.ext_refl _) F7 F8 F9 F3 F4 F10 F11 F12 hg0 hg1 hg2 hg3 hM hX (own_is (1 : Int32) g0 g1 g2 g3).length (own_lh1 hg0 hg1 hg2 hg3).1 (own_lh1 hg0 hg1 hg2 hg3).2.1 (own_lh1 hg0 hg1 hg2 hg3).2.2 own_z ?_
  show GoB6 l Z n0 (Q6 Z o q0 q1 g0 g1 g2 g3 s0 s1 s2 s3 x0 x1 x2 x3 shA mA sA k1 k2 ks kx ko h0) h1 0 0 74 #[.val (.ref o), .val (.ref q0), .val (.ref q1), .val (.int (1 : Int32)), .val (.double (own_fold [s0, s1, s2, s3] [x0, x1, x2, x3] (own_ML g0 g1 g2 g3) (own_is (1 : Int32) g0 g1 g2 g3).length ((own_SL g0 g1 g2 g3).getD 1 0) (0 : UInt64))), .second, .val (.int (own_jn (own_is (1 : Int32) g0 g1 g2 g3).length ((own_SL g0 g1 g2 g3).getD 1 0)))] []
  refine OwnW.aloadN (pc' := 75) d6_74 rfl (rfl) rfl ?_
  refine OwnW.iloadN (pc' := 76) d6_75 rfl rfl ?_
  refine OwnW.dload (pc' := 78) d6_76 rfl rfl ?_
  obtain ⟨cl13, Ar13, qk13, Sz13, Mn13, Hv13, Gf13⟩ := id V1
  refine OwnW.stD (pc' := 79) d6_78 Ar13 (inb_of Sz13 ⟨by decide, by decide⟩) g_q1 rfl ?_
  intro h13 W13
  have sz14 : n0 ≤ h13.size := (by rw [W13.size]; exact sz2)
  have V13 : Arv Z h13 q1 ko .double (4 : Int32) [(.double (0 : UInt64)), (.double (own_fold [s0, s1, s2, s3] [x0, x1, x2, x3] (own_ML g0 g1 g2 g3) (own_is (1 : Int32) g0 g1 g2 g3).length ((own_SL g0 g1 g2 g3).getD 1 0) (0 : UInt64))), (.double (4619567317775286272 : UInt64)), (.double (4619567317775286272 : UInt64))] (.double (0 : UInt64)) := Arv.set Ar13 qk13 Sz13 Mn13 Hv13 Gf13 rfl W13 1 rfl (Nat.le_of_ble_eq_true rfl)
  refine OwnW.iinc (pc' := 82) (L' := #[.val (.ref o), .val (.ref q0), .val (.ref q1), .val (.int (2 : Int32)), .val (.double (own_fold [s0, s1, s2, s3] [x0, x1, x2, x3] (own_ML g0 g1 g2 g3) (own_is (1 : Int32) g0 g1 g2 g3).length ((own_SL g0 g1 g2 g3).getD 1 0) (0 : UInt64))), .second, .val (.int (own_jn (own_is (1 : Int32) g0 g1 g2 g3).length ((own_SL g0 g1 g2 g3).getD 1 0)))]) (d := (1 : Int32)) d6_79 rfl rfl rfl rfl ?_
  refine OwnW.goto (pc' := 6) d6_82 (by decide) (by decide) ?_
  refine OwnW.iloadN (pc' := 7) d6_6 rfl rfl ?_
  refine OwnW.aloadN (pc' := 8) d6_7 rfl (rfl) rfl ?_
  have F15 := (F3.other W13 (Or.inl (Ne.symm ne_q1_o)))
  refine OwnW.getF (a0 := a0) (pc' := 11) d6_8 (host := "") (Or.inl (hw _ (List.mem_of_getElem? (i := 33) rfl))) Via.refl F15 rfl ?_
  have F16 := (F4.other W13 (Ne.symm ne_q1_sA))
  obtain ⟨cl17, Ar17, qk17, Sz17, Mn17, Hv17, Gf17⟩ := id F16
  refine OwnW.alen (pc' := 12) (x := (5 : Int32)) d6_11 Ar17 (len_of Sz17 Mn17) rfl ?_
  show GoB6 l Z n0 (Q6 Z o q0 q1 g0 g1 g2 g3 s0 s1 s2 s3 x0 x1 x2 x3 shA mA sA k1 k2 ks kx ko h0) h13 0 0 12 #[.val (.ref o), .val (.ref q0), .val (.ref q1), .val (.int (2 : Int32)), .val (.double (own_fold [s0, s1, s2, s3] [x0, x1, x2, x3] (own_ML g0 g1 g2 g3) (own_is (1 : Int32) g0 g1 g2 g3).length ((own_SL g0 g1 g2 g3).getD 1 0) (0 : UInt64))), .second, .val (.int (own_jn (own_is (1 : Int32) g0 g1 g2 g3).length ((own_SL g0 g1 g2 g3).getD 1 0)))] [(.int (5 : Int32)), (.int (2 : Int32))]
  refine OwnW.iconst (pc' := 13) (v := (1 : Int32)) d6_12 rfl rfl ?_
  refine OwnW.isub (pc' := 14) d6_13 rfl ?_
  show GoB6 l Z n0 (Q6 Z o q0 q1 g0 g1 g2 g3 s0 s1 s2 s3 x0 x1 x2 x3 shA mA sA k1 k2 ks kx ko h0) h13 0 0 14 #[.val (.ref o), .val (.ref q0), .val (.ref q1), .val (.int (2 : Int32)), .val (.double (own_fold [s0, s1, s2, s3] [x0, x1, x2, x3] (own_ML g0 g1 g2 g3) (own_is (1 : Int32) g0 g1 g2 g3).length ((own_SL g0 g1 g2 g3).getD 1 0) (0 : UInt64))), .second, .val (.int (own_jn (own_is (1 : Int32) g0 g1 g2 g3).length ((own_SL g0 g1 g2 g3).getD 1 0)))] [(.int (4 : Int32)), (.int (2 : Int32))]
  refine OwnW.icmpN (pc' := 17) d6_14 (tlt (by decide)).2.1 rfl ?_
  refine OwnW.dconst0 (pc' := 18) (v := (0 : UInt64)) d6_17 (by decide +kernel) rfl ?_
  refine OwnW.dstore (pc' := 20) (L' := #[.val (.ref o), .val (.ref q0), .val (.ref q1), .val (.int (2 : Int32)), .val (.double (0 : UInt64)), .second, .val (.int (own_jn (own_is (1 : Int32) g0 g1 g2 g3).length ((own_SL g0 g1 g2 g3).getD 1 0)))]) d6_18 rfl rfl ?_
  refine OwnW.aloadN (pc' := 21) d6_20 rfl (rfl) rfl ?_
  refine OwnW.getF (a0 := a0) (pc' := 24) d6_21 (host := "") (Or.inl (hw _ (List.mem_of_getElem? (i := 33) rfl))) Via.refl F15 rfl ?_
  refine OwnW.iloadN (pc' := 25) d6_24 rfl rfl ?_
  obtain ⟨cl18, Ar18, qk18, Sz18, Mn18, Hv18, Gf18⟩ := id F16
  refine OwnW.iaload (pc' := 26) (v := .int ((own_SL g0 g1 g2 g3).getD 2 0)) d6_25 Ar18 (inb_of Sz18 ⟨by decide, by decide⟩) (Hv18.at (inb_of Sz18 ⟨by decide, by decide⟩) (own_gd (own_SL g0 g1 g2 g3) 2)) rfl ?_
  show GoB6 l Z n0 (Q6 Z o q0 q1 g0 g1 g2 g3 s0 s1 s2 s3 x0 x1 x2 x3 shA mA sA k1 k2 ks kx ko h0) h13 0 0 26 #[.val (.ref o), .val (.ref q0), .val (.ref q1), .val (.int (2 : Int32)), .val (.double (0 : UInt64)), .second, .val (.int (own_jn (own_is (1 : Int32) g0 g1 g2 g3).length ((own_SL g0 g1 g2 g3).getD 1 0)))] [(.int ((own_SL g0 g1 g2 g3).getD 2 0))]
  refine OwnW.istore (pc' := 28) (L' := #[.val (.ref o), .val (.ref q0), .val (.ref q1), .val (.int (2 : Int32)), .val (.double (0 : UInt64)), .second, .val (.int ((own_SL g0 g1 g2 g3).getD 2 0))]) d6_26 rfl rfl ?_
  have F19 := (F7.wr W13)
  have F20 := (F8.other W13 (Or.inl (Ne.symm ne_q1_o)))
  have F21 := (F9.other W13 (Or.inl (Ne.symm ne_q1_o)))
  have F22 := (F10.other W13 (Ne.symm ne_q1_mA))
  have F23 := (F11.other W13 (Ne.symm ne_q1_shA))
  have F24 := (F12.other W13 (Ne.symm ne_q1_q0))
  refine inn2 l Z a0 hw o q0 q1 g0 g1 g2 g3 s0 s1 s2 s3 x0 x1 x2 x3 shA mA sA k1 k2 ks kx ((own_SL g0 g1 g2 g3).getD 2 0) (0 : UInt64) (Q6 Z o q0 q1 g0 g1 g2 g3 s0 s1 s2 s3 x0 x1 x2 x3 shA mA sA k1 k2 ks kx ko h0) h13 h13 n0 sz14 (OwnW.ext_refl _) F19 F20 F21 F15 F16 F22 F23 F24 hg0 hg1 hg2 hg3 hM hX (own_is (2 : Int32) g0 g1 g2 g3).length (own_lh2 hg0 hg1 hg2 hg3).1 (own_lh2 hg0 hg1 hg2 hg3).2.1 (own_lh2 hg0 hg1 hg2 hg3).2.2 own_z ?_
  show GoB6 l Z n0 (Q6 Z o q0 q1 g0 g1 g2 g3 s0 s1 s2 s3 x0 x1 x2 x3 shA mA sA k1 k2 ks kx ko h0) h13 0 0 74 #[.val (.ref o), .val (.ref q0), .val (.ref q1), .val (.int (2 : Int32)), .val (.double (own_fold [s0, s1, s2, s3] [x0, x1, x2, x3] (own_ML g0 g1 g2 g3) (own_is (2 : Int32) g0 g1 g2 g3).length ((own_SL g0 g1 g2 g3).getD 2 0) (0 : UInt64))), .second, .val (.int (own_jn (own_is (2 : Int32) g0 g1 g2 g3).length ((own_SL g0 g1 g2 g3).getD 2 0)))] []
  refine OwnW.aloadN (pc' := 75) d6_74 rfl (rfl) rfl ?_
  refine OwnW.iloadN (pc' := 76) d6_75 rfl rfl ?_
  refine OwnW.dload (pc' := 78) d6_76 rfl rfl ?_
  obtain ⟨cl25, Ar25, qk25, Sz25, Mn25, Hv25, Gf25⟩ := id V13
  refine OwnW.stD (pc' := 79) d6_78 Ar25 (inb_of Sz25 ⟨by decide, by decide⟩) g_q1 rfl ?_
  intro h25 W25
  have sz26 : n0 ≤ h25.size := (by rw [W25.size]; exact sz14)
  have V25 : Arv Z h25 q1 ko .double (4 : Int32) [(.double (0 : UInt64)), (.double (own_fold [s0, s1, s2, s3] [x0, x1, x2, x3] (own_ML g0 g1 g2 g3) (own_is (1 : Int32) g0 g1 g2 g3).length ((own_SL g0 g1 g2 g3).getD 1 0) (0 : UInt64))), (.double (own_fold [s0, s1, s2, s3] [x0, x1, x2, x3] (own_ML g0 g1 g2 g3) (own_is (2 : Int32) g0 g1 g2 g3).length ((own_SL g0 g1 g2 g3).getD 2 0) (0 : UInt64))), (.double (4619567317775286272 : UInt64))] (.double (0 : UInt64)) := Arv.set Ar25 qk25 Sz25 Mn25 Hv25 Gf25 rfl W25 2 rfl (Nat.le_of_ble_eq_true rfl)
  refine OwnW.iinc (pc' := 82) (L' := #[.val (.ref o), .val (.ref q0), .val (.ref q1), .val (.int (3 : Int32)), .val (.double (own_fold [s0, s1, s2, s3] [x0, x1, x2, x3] (own_ML g0 g1 g2 g3) (own_is (2 : Int32) g0 g1 g2 g3).length ((own_SL g0 g1 g2 g3).getD 2 0) (0 : UInt64))), .second, .val (.int (own_jn (own_is (2 : Int32) g0 g1 g2 g3).length ((own_SL g0 g1 g2 g3).getD 2 0)))]) (d := (1 : Int32)) d6_79 rfl rfl rfl rfl ?_
  refine OwnW.goto (pc' := 6) d6_82 (by decide) (by decide) ?_
  refine OwnW.iloadN (pc' := 7) d6_6 rfl rfl ?_
  refine OwnW.aloadN (pc' := 8) d6_7 rfl (rfl) rfl ?_
  have F27 := (F15.other W25 (Or.inl (Ne.symm ne_q1_o)))
  refine OwnW.getF (a0 := a0) (pc' := 11) d6_8 (host := "") (Or.inl (hw _ (List.mem_of_getElem? (i := 33) rfl))) Via.refl F27 rfl ?_
  have F28 := (F16.other W25 (Ne.symm ne_q1_sA))
  obtain ⟨cl29, Ar29, qk29, Sz29, Mn29, Hv29, Gf29⟩ := id F28
  refine OwnW.alen (pc' := 12) (x := (5 : Int32)) d6_11 Ar29 (len_of Sz29 Mn29) rfl ?_
  show GoB6 l Z n0 (Q6 Z o q0 q1 g0 g1 g2 g3 s0 s1 s2 s3 x0 x1 x2 x3 shA mA sA k1 k2 ks kx ko h0) h25 0 0 12 #[.val (.ref o), .val (.ref q0), .val (.ref q1), .val (.int (3 : Int32)), .val (.double (own_fold [s0, s1, s2, s3] [x0, x1, x2, x3] (own_ML g0 g1 g2 g3) (own_is (2 : Int32) g0 g1 g2 g3).length ((own_SL g0 g1 g2 g3).getD 2 0) (0 : UInt64))), .second, .val (.int (own_jn (own_is (2 : Int32) g0 g1 g2 g3).length ((own_SL g0 g1 g2 g3).getD 2 0)))] [(.int (5 : Int32)), (.int (3 : Int32))]
  refine OwnW.iconst (pc' := 13) (v := (1 : Int32)) d6_12 rfl rfl ?_
  refine OwnW.isub (pc' := 14) d6_13 rfl ?_
  show GoB6 l Z n0 (Q6 Z o q0 q1 g0 g1 g2 g3 s0 s1 s2 s3 x0 x1 x2 x3 shA mA sA k1 k2 ks kx ko h0) h25 0 0 14 #[.val (.ref o), .val (.ref q0), .val (.ref q1), .val (.int (3 : Int32)), .val (.double (own_fold [s0, s1, s2, s3] [x0, x1, x2, x3] (own_ML g0 g1 g2 g3) (own_is (2 : Int32) g0 g1 g2 g3).length ((own_SL g0 g1 g2 g3).getD 2 0) (0 : UInt64))), .second, .val (.int (own_jn (own_is (2 : Int32) g0 g1 g2 g3).length ((own_SL g0 g1 g2 g3).getD 2 0)))] [(.int (4 : Int32)), (.int (3 : Int32))]
  refine OwnW.icmpN (pc' := 17) d6_14 (tlt (by decide)).2.1 rfl ?_
  refine OwnW.dconst0 (pc' := 18) (v := (0 : UInt64)) d6_17 (by decide +kernel) rfl ?_
  refine OwnW.dstore (pc' := 20) (L' := #[.val (.ref o), .val (.ref q0), .val (.ref q1), .val (.int (3 : Int32)), .val (.double (0 : UInt64)), .second, .val (.int (own_jn (own_is (2 : Int32) g0 g1 g2 g3).length ((own_SL g0 g1 g2 g3).getD 2 0)))]) d6_18 rfl rfl ?_
  refine OwnW.aloadN (pc' := 21) d6_20 rfl (rfl) rfl ?_
  refine OwnW.getF (a0 := a0) (pc' := 24) d6_21 (host := "") (Or.inl (hw _ (List.mem_of_getElem? (i := 33) rfl))) Via.refl F27 rfl ?_
  refine OwnW.iloadN (pc' := 25) d6_24 rfl rfl ?_
  obtain ⟨cl30, Ar30, qk30, Sz30, Mn30, Hv30, Gf30⟩ := id F28
  refine OwnW.iaload (pc' := 26) (v := .int ((own_SL g0 g1 g2 g3).getD 3 0)) d6_25 Ar30 (inb_of Sz30 ⟨by decide, by decide⟩) (Hv30.at (inb_of Sz30 ⟨by decide, by decide⟩) (own_gd (own_SL g0 g1 g2 g3) 3)) rfl ?_
  show GoB6 l Z n0 (Q6 Z o q0 q1 g0 g1 g2 g3 s0 s1 s2 s3 x0 x1 x2 x3 shA mA sA k1 k2 ks kx ko h0) h25 0 0 26 #[.val (.ref o), .val (.ref q0), .val (.ref q1), .val (.int (3 : Int32)), .val (.double (0 : UInt64)), .second, .val (.int (own_jn (own_is (2 : Int32) g0 g1 g2 g3).length ((own_SL g0 g1 g2 g3).getD 2 0)))] [(.int ((own_SL g0 g1 g2 g3).getD 3 0))]
  refine OwnW.istore (pc' := 28) (L' := #[.val (.ref o), .val (.ref q0), .val (.ref q1), .val (.int (3 : Int32)), .val (.double (0 : UInt64)), .second, .val (.int ((own_SL g0 g1 g2 g3).getD 3 0))]) d6_26 rfl rfl ?_
  have F31 := (F19.wr W25)
  have F32 := (F20.other W25 (Or.inl (Ne.symm ne_q1_o)))
  have F33 := (F21.other W25 (Or.inl (Ne.symm ne_q1_o)))
  have F34 := (F22.other W25 (Ne.symm ne_q1_mA))
  have F35 := (F23.other W25 (Ne.symm ne_q1_shA))
  have F36 := (F24.other W25 (Ne.symm ne_q1_q0))
  refine inn3 l Z a0 hw o q0 q1 g0 g1 g2 g3 s0 s1 s2 s3 x0 x1 x2 x3 shA mA sA k1 k2 ks kx ((own_SL g0 g1 g2 g3).getD 3 0) (0 : UInt64) (Q6 Z o q0 q1 g0 g1 g2 g3 s0 s1 s2 s3 x0 x1 x2 x3 shA mA sA k1 k2 ks kx ko h0) h25 h25 n0 sz26 (OwnW.ext_refl _) F31 F32 F33 F27 F28 F34 F35 F36 hg0 hg1 hg2 hg3 hM hX (own_is (3 : Int32) g0 g1 g2 g3).length (own_lh3 hg0 hg1 hg2 hg3).1 (own_lh3 hg0 hg1 hg2 hg3).2.1 (own_lh3 hg0 hg1 hg2 hg3).2.2 own_z ?_
  show GoB6 l Z n0 (Q6 Z o q0 q1 g0 g1 g2 g3 s0 s1 s2 s3 x0 x1 x2 x3 shA mA sA k1 k2 ks kx ko h0) h25 0 0 74 #[.val (.ref o), .val (.ref q0), .val (.ref q1), .val (.int (3 : Int32)), .val (.double (own_fold [s0, s1, s2, s3] [x0, x1, x2, x3] (own_ML g0 g1 g2 g3) (own_is (3 : Int32) g0 g1 g2 g3).length ((own_SL g0 g1 g2 g3).getD 3 0) (0 : UInt64))), .second, .val (.int (own_jn (own_is (3 : Int32) g0 g1 g2 g3).length ((own_SL g0 g1 g2 g3).getD 3 0)))] []
  refine OwnW.aloadN (pc' := 75) d6_74 rfl (rfl) rfl ?_
  refine OwnW.iloadN (pc' := 76) d6_75 rfl rfl ?_
  refine OwnW.dload (pc' := 78) d6_76 rfl rfl ?_
  obtain ⟨cl37, Ar37, qk37, Sz37, Mn37, Hv37, Gf37⟩ := id V25
  refine OwnW.stD (pc' := 79) d6_78 Ar37 (inb_of Sz37 ⟨by decide, by decide⟩) g_q1 rfl ?_
  intro h37 W37
  have sz38 : n0 ≤ h37.size := (by rw [W37.size]; exact sz26)
  have V37 : Arv Z h37 q1 ko .double (4 : Int32) [(.double (0 : UInt64)), (.double (own_fold [s0, s1, s2, s3] [x0, x1, x2, x3] (own_ML g0 g1 g2 g3) (own_is (1 : Int32) g0 g1 g2 g3).length ((own_SL g0 g1 g2 g3).getD 1 0) (0 : UInt64))), (.double (own_fold [s0, s1, s2, s3] [x0, x1, x2, x3] (own_ML g0 g1 g2 g3) (own_is (2 : Int32) g0 g1 g2 g3).length ((own_SL g0 g1 g2 g3).getD 2 0) (0 : UInt64))), (.double (own_fold [s0, s1, s2, s3] [x0, x1, x2, x3] (own_ML g0 g1 g2 g3) (own_is (3 : Int32) g0 g1 g2 g3).length ((own_SL g0 g1 g2 g3).getD 3 0) (0 : UInt64)))] (.double (0 : UInt64)) := Arv.set Ar37 qk37 Sz37 Mn37 Hv37 Gf37 rfl W37 3 rfl (Nat.le_of_ble_eq_true rfl)
  refine OwnW.iinc (pc' := 82) (L' := #[.val (.ref o), .val (.ref q0), .val (.ref q1), .val (.int (4 : Int32)), .val (.double (own_fold [s0, s1, s2, s3] [x0, x1, x2, x3] (own_ML g0 g1 g2 g3) (own_is (3 : Int32) g0 g1 g2 g3).length ((own_SL g0 g1 g2 g3).getD 3 0) (0 : UInt64))), .second, .val (.int (own_jn (own_is (3 : Int32) g0 g1 g2 g3).length ((own_SL g0 g1 g2 g3).getD 3 0)))]) (d := (1 : Int32)) d6_79 rfl rfl rfl rfl ?_
  refine OwnW.goto (pc' := 6) d6_82 (by decide) (by decide) ?_
  refine OwnW.iloadN (pc' := 7) d6_6 rfl rfl ?_
  refine OwnW.aloadN (pc' := 8) d6_7 rfl (rfl) rfl ?_
  have F39 := (F27.other W37 (Or.inl (Ne.symm ne_q1_o)))
  refine OwnW.getF (a0 := a0) (pc' := 11) d6_8 (host := "") (Or.inl (hw _ (List.mem_of_getElem? (i := 33) rfl))) Via.refl F39 rfl ?_
  have F40 := (F28.other W37 (Ne.symm ne_q1_sA))
  obtain ⟨cl41, Ar41, qk41, Sz41, Mn41, Hv41, Gf41⟩ := id F40
  refine OwnW.alen (pc' := 12) (x := (5 : Int32)) d6_11 Ar41 (len_of Sz41 Mn41) rfl ?_
  show GoB6 l Z n0 (Q6 Z o q0 q1 g0 g1 g2 g3 s0 s1 s2 s3 x0 x1 x2 x3 shA mA sA k1 k2 ks kx ko h0) h37 0 0 12 #[.val (.ref o), .val (.ref q0), .val (.ref q1), .val (.int (4 : Int32)), .val (.double (own_fold [s0, s1, s2, s3] [x0, x1, x2, x3] (own_ML g0 g1 g2 g3) (own_is (3 : Int32) g0 g1 g2 g3).length ((own_SL g0 g1 g2 g3).getD 3 0) (0 : UInt64))), .second, .val (.int (own_jn (own_is (3 : Int32) g0 g1 g2 g3).length ((own_SL g0 g1 g2 g3).getD 3 0)))] [(.int (5 : Int32)), (.int (4 : Int32))]
  refine OwnW.iconst (pc' := 13) (v := (1 : Int32)) d6_12 rfl rfl ?_
  refine OwnW.isub (pc' := 14) d6_13 rfl ?_
  show GoB6 l Z n0 (Q6 Z o q0 q1 g0 g1 g2 g3 s0 s1 s2 s3 x0 x1 x2 x3 shA mA sA k1 k2 ks kx ko h0) h37 0 0 14 #[.val (.ref o), .val (.ref q0), .val (.ref q1), .val (.int (4 : Int32)), .val (.double (own_fold [s0, s1, s2, s3] [x0, x1, x2, x3] (own_ML g0 g1 g2 g3) (own_is (3 : Int32) g0 g1 g2 g3).length ((own_SL g0 g1 g2 g3).getD 3 0) (0 : UInt64))), .second, .val (.int (own_jn (own_is (3 : Int32) g0 g1 g2 g3).length ((own_SL g0 g1 g2 g3).getD 3 0)))] [(.int (4 : Int32)), (.int (4 : Int32))]
  refine OwnW.icmpY (pc' := 85) d6_14 (flt (by decide)).2.1 (by decide) (by decide) ?_
  exact OwnW.ret0 d6_85 rfl (by decide) (by decide) (⟨rfl, (((((Keep.refl h0 [q1]).wr W1 (Or.inl (List.mem_of_getElem? (i := 0) rfl))).wr W13 (Or.inl (List.mem_of_getElem? (i := 0) rfl))).wr W25 (Or.inl (List.mem_of_getElem? (i := 0) rfl))).wr W37 (Or.inl (List.mem_of_getElem? (i := 0) rfl))), V37⟩)
abbrev GoB0 (l : Launch) (Z : State) (n0 : Nat) (Q : Option Value → Heap → Prop) := Go l Z room_1 x code maxLocals ret n0 Q
theorem ef0 (m : MethodId) (p0 : Int32) (p1 : Int32) (p2 : Int32) (p3 : Int32) (p4 : Int32) (p5 : Int32) : entryFrame m #[(.int p0), (.int p1), (.int p2), (.int p3), (.int p4), (.int p5)] maxLocals = mkF m 0 #[.val (.int p0), .val (.int p1), .val (.int p2), .val (.int p3), .val (.int p4), .val (.int p5), .unset, .unset, .unset, .unset, .unset, .unset, .unset, .unset, .unset, .unset, .unset, .unset, .unset, .unset, .unset, .unset, .unset, .unset, .unset, .unset, .unset, .unset, .unset] [] := by first | (simp [entryFrame, mkF, argsToLocals, Value.category, maxLocals]; done) | rfl
set_option maxRecDepth 65536 in
set_option maxHeartbeats 400000000 in
theorem rm0 (l : Launch) (Z : State) (a0 : Array Value) (hw : ∀ d ∈ tables_1, d.before a0 Z = true) (p0 : Int32) (p1 : Int32) (p2 : Int32) (p3 : Int32) (p4 : Int32) (p5 : Int32) (h0 : Heap) (n0 : Nat) (Z0 : n0 ≤ h0.size) :
    Con l Z room_1 x code maxLocals ret n0 #[(.int p0), (.int p1), (.int p2), (.int p3), (.int p4), (.int p5)] h0 OwnW.One1 := by
  refine OwnW.Con.of (by first | decide +kernel | exact plainFor_of_name (by simp [x, plainName, overriddenIn])) (fun m => ef0 m p0 p1 p2 p3 p4 p5) ?_
  show GoB0 l Z n0 OwnW.One1 h0 0 0 0 #[.val (.int p0), .val (.int p1), .val (.int p2), .val (.int p3), .val (.int p4), .val (.int p5), .unset, .unset, .unset, .unset, .unset, .unset, .unset, .unset, .unset, .unset, .unset, .unset, .unset, .unset, .unset, .unset, .unset, .unset, .unset, .unset, .unset, .unset, .unset] []
  refine OwnW.iloadN (pc' := 1) at_0 rfl rfl ?_
  refine OwnW.iconst (pc' := 2) (v := (3 : Int32)) at_1 rfl rfl ?_
  refine OwnW.iand (pc' := 3) at_2 rfl ?_
  obtain ⟨g0, hg0⟩ : ∃ z, z = (p0 &&& (3 : Int32)) := ⟨_, rfl⟩
  rw [← hg0]
  show GoB0 l Z n0 OwnW.One1 h0 0 0 3 #[.val (.int p0), .val (.int p1), .val (.int p2), .val (.int p3), .val (.int p4), .val (.int p5), .unset, .unset, .unset, .unset, .unset, .unset, .unset, .unset, .unset, .unset, .unset, .unset, .unset, .unset, .unset, .unset, .unset, .unset, .unset, .unset, .unset, .unset, .unset] [(.int g0)]
  refine OwnW.istore (pc' := 5) (L' := #[.val (.int p0), .val (.int p1), .val (.int p2), .val (.int p3), .val (.int p4), .val (.int p5), .val (.int g0), .unset, .unset, .unset, .unset, .unset, .unset, .unset, .unset, .unset, .unset, .unset, .unset, .unset, .unset, .unset, .unset, .unset, .unset, .unset, .unset, .unset, .unset]) at_3 rfl rfl ?_
  refine OwnW.iloadN (pc' := 6) at_5 rfl rfl ?_
  refine OwnW.iconst (pc' := 7) (v := (2 : Int32)) at_6 rfl rfl ?_
  refine OwnW.iushr (pc' := 8) at_7 rfl ?_
  refine OwnW.iconst (pc' := 9) (v := (3 : Int32)) at_8 rfl rfl ?_
  refine OwnW.iand (pc' := 10) at_9 rfl ?_
  obtain ⟨g1, hg1⟩ : ∃ z, z = (((p0.toUInt32 >>> ((2 : Int32) &&& 31).toUInt32).toInt32) &&& (3 : Int32)) := ⟨_, rfl⟩
  rw [← hg1]
  show GoB0 l Z n0 OwnW.One1 h0 0 0 10 #[.val (.int p0), .val (.int p1), .val (.int p2), .val (.int p3), .val (.int p4), .val (.int p5), .val (.int g0), .unset, .unset, .unset, .unset, .unset, .unset, .unset, .unset, .unset, .unset, .unset, .unset, .unset, .unset, .unset, .unset, .unset, .unset, .unset, .unset, .unset, .unset] [(.int g1)]
  refine OwnW.istore (pc' := 12) (L' := #[.val (.int p0), .val (.int p1), .val (.int p2), .val (.int p3), .val (.int p4), .val (.int p5), .val (.int g0), .val (.int g1), .unset, .unset, .unset, .unset, .unset, .unset, .unset, .unset, .unset, .unset, .unset, .unset, .unset, .unset, .unset, .unset, .unset, .unset, .unset, .unset, .unset]) at_10 rfl rfl ?_
  refine OwnW.iloadN (pc' := 13) at_12 rfl rfl ?_
  refine OwnW.iconst (pc' := 14) (v := (4 : Int32)) at_13 rfl rfl ?_
  refine OwnW.iushr (pc' := 15) at_14 rfl ?_
  refine OwnW.iconst (pc' := 16) (v := (3 : Int32)) at_15 rfl rfl ?_
  refine OwnW.iand (pc' := 17) at_16 rfl ?_
  obtain ⟨g2, hg2⟩ : ∃ z, z = (((p0.toUInt32 >>> ((4 : Int32) &&& 31).toUInt32).toInt32) &&& (3 : Int32)) := ⟨_, rfl⟩
  rw [← hg2]
  show GoB0 l Z n0 OwnW.One1 h0 0 0 17 #[.val (.int p0), .val (.int p1), .val (.int p2), .val (.int p3), .val (.int p4), .val (.int p5), .val (.int g0), .val (.int g1), .unset, .unset, .unset, .unset, .unset, .unset, .unset, .unset, .unset, .unset, .unset, .unset, .unset, .unset, .unset, .unset, .unset, .unset, .unset, .unset, .unset] [(.int g2)]
  refine OwnW.istore (pc' := 19) (L' := #[.val (.int p0), .val (.int p1), .val (.int p2), .val (.int p3), .val (.int p4), .val (.int p5), .val (.int g0), .val (.int g1), .val (.int g2), .unset, .unset, .unset, .unset, .unset, .unset, .unset, .unset, .unset, .unset, .unset, .unset, .unset, .unset, .unset, .unset, .unset, .unset, .unset, .unset]) at_17 rfl rfl ?_
  refine OwnW.iloadN (pc' := 20) at_19 rfl rfl ?_
  refine OwnW.bipush (pc' := 22) (v := (6 : Int32)) at_20 rfl rfl ?_
  refine OwnW.iushr (pc' := 23) at_22 rfl ?_
  refine OwnW.iconst (pc' := 24) (v := (3 : Int32)) at_23 rfl rfl ?_
  refine OwnW.iand (pc' := 25) at_24 rfl ?_
  obtain ⟨g3, hg3⟩ : ∃ z, z = (((p0.toUInt32 >>> ((6 : Int32) &&& 31).toUInt32).toInt32) &&& (3 : Int32)) := ⟨_, rfl⟩
  rw [← hg3]
  show GoB0 l Z n0 OwnW.One1 h0 0 0 25 #[.val (.int p0), .val (.int p1), .val (.int p2), .val (.int p3), .val (.int p4), .val (.int p5), .val (.int g0), .val (.int g1), .val (.int g2), .unset, .unset, .unset, .unset, .unset, .unset, .unset, .unset, .unset, .unset, .unset, .unset, .unset, .unset, .unset, .unset, .unset, .unset, .unset, .unset] [(.int g3)]
  refine OwnW.istore (pc' := 27) (L' := #[.val (.int p0), .val (.int p1), .val (.int p2), .val (.int p3), .val (.int p4), .val (.int p5), .val (.int g0), .val (.int g1), .val (.int g2), .val (.int g3), .unset, .unset, .unset, .unset, .unset, .unset, .unset, .unset, .unset, .unset, .unset, .unset, .unset, .unset, .unset, .unset, .unset, .unset, .unset]) at_25 rfl rfl ?_
  refine OwnW.iload (pc' := 29) at_27 rfl rfl ?_
  refine OwnW.iloadN (pc' := 30) at_29 rfl rfl ?_
  refine OwnW.callS0 (a0 := a0) (pc' := 33) (W := 0) (k' := 0) (n' := 0) (argsL := [(.int g0), (.int p1)]) (rest := []) (St' := [(.double (f1 g0 p1))]) at_30 (hw _ (List.mem_of_getElem? (i := 0) rfl)) (hw _ (List.mem_of_getElem? (i := 1) rfl)) (hw _ (List.mem_of_getElem? (i := 2) rfl)) (hw _ (List.mem_of_getElem? (i := 3) rfl)) (by decide) (rm1 l Z a0 hw g0 p1 h0 n0) (by decide) (by decide) rfl rfl (by decide) (by decide) rfl pd_28II29D rfl rfl rfl (Nat.le_of_ble_eq_true rfl) rfl rfl ?_
  obtain ⟨s0, hs0⟩ : ∃ z, z = (f1 g0 p1) := ⟨_, rfl⟩
  rw [← hs0]
  show GoB0 l Z n0 OwnW.One1 h0 0 0 33 #[.val (.int p0), .val (.int p1), .val (.int p2), .val (.int p3), .val (.int p4), .val (.int p5), .val (.int g0), .val (.int g1), .val (.int g2), .val (.int g3), .unset, .unset, .unset, .unset, .unset, .unset, .unset, .unset, .unset, .unset, .unset, .unset, .unset, .unset, .unset, .unset, .unset, .unset, .unset] [(.double s0)]
  refine OwnW.dstore (pc' := 35) (L' := #[.val (.int p0), .val (.int p1), .val (.int p2), .val (.int p3), .val (.int p4), .val (.int p5), .val (.int g0), .val (.int g1), .val (.int g2), .val (.int g3), .val (.double s0), .second, .unset, .unset, .unset, .unset, .unset, .unset, .unset, .unset, .unset, .unset, .unset, .unset, .unset, .unset, .unset, .unset, .unset]) at_33 rfl rfl ?_
  refine OwnW.iload (pc' := 37) at_35 rfl rfl ?_
  refine OwnW.iloadN (pc' := 38) at_37 rfl rfl ?_
  refine OwnW.iconst (pc' := 39) (v := (3 : Int32)) at_38 rfl rfl ?_
  refine OwnW.iushr (pc' := 40) at_39 rfl ?_
  refine OwnW.callS0 (a0 := a0) (pc' := 43) (W := 0) (k' := 0) (n' := 0) (argsL := [(.int g1), (.int ((p1.toUInt32 >>> ((3 : Int32) &&& 31).toUInt32).toInt32))]) (rest := []) (St' := [(.double (f1 g1 ((p1.toUInt32 >>> ((3 : Int32) &&& 31).toUInt32).toInt32)))]) at_40 (hw _ (List.mem_of_getElem? (i := 0) rfl)) (hw _ (List.mem_of_getElem? (i := 1) rfl)) (hw _ (List.mem_of_getElem? (i := 2) rfl)) (hw _ (List.mem_of_getElem? (i := 3) rfl)) (by decide) (rm1 l Z a0 hw g1 ((p1.toUInt32 >>> ((3 : Int32) &&& 31).toUInt32).toInt32) h0 n0) (by decide) (by decide) rfl rfl (by decide) (by decide) rfl pd_28II29D rfl rfl rfl (Nat.le_of_ble_eq_true rfl) rfl rfl ?_
  obtain ⟨s1, hs1⟩ : ∃ z, z = (f1 g1 ((p1.toUInt32 >>> ((3 : Int32) &&& 31).toUInt32).toInt32)) := ⟨_, rfl⟩
  rw [← hs1]
  show GoB0 l Z n0 OwnW.One1 h0 0 0 43 #[.val (.int p0), .val (.int p1), .val (.int p2), .val (.int p3), .val (.int p4), .val (.int p5), .val (.int g0), .val (.int g1), .val (.int g2), .val (.int g3), .val (.double s0), .second, .unset, .unset, .unset, .unset, .unset, .unset, .unset, .unset, .unset, .unset, .unset, .unset, .unset, .unset, .unset, .unset, .unset] [(.double s1)]
  refine OwnW.dstore (pc' := 45) (L' := #[.val (.int p0), .val (.int p1), .val (.int p2), .val (.int p3), .val (.int p4), .val (.int p5), .val (.int g0), .val (.int g1), .val (.int g2), .val (.int g3), .val (.double s0), .second, .val (.double s1), .second, .unset, .unset, .unset, .unset, .unset, .unset, .unset, .unset, .unset, .unset, .unset, .unset, .unset, .unset, .unset]) at_43 rfl rfl ?_
  refine OwnW.iload (pc' := 47) at_45 rfl rfl ?_
  refine OwnW.iloadN (pc' := 48) at_47 rfl rfl ?_
  refine OwnW.bipush (pc' := 50) (v := (6 : Int32)) at_48 rfl rfl ?_
  refine OwnW.iushr (pc' := 51) at_50 rfl ?_
  refine OwnW.callS0 (a0 := a0) (pc' := 54) (W := 0) (k' := 0) (n' := 0) (argsL := [(.int g2), (.int ((p1.toUInt32 >>> ((6 : Int32) &&& 31).toUInt32).toInt32))]) (rest := []) (St' := [(.double (f1 g2 ((p1.toUInt32 >>> ((6 : Int32) &&& 31).toUInt32).toInt32)))]) at_51 (hw _ (List.mem_of_getElem? (i := 0) rfl)) (hw _ (List.mem_of_getElem? (i := 1) rfl)) (hw _ (List.mem_of_getElem? (i := 2) rfl)) (hw _ (List.mem_of_getElem? (i := 3) rfl)) (by decide) (rm1 l Z a0 hw g2 ((p1.toUInt32 >>> ((6 : Int32) &&& 31).toUInt32).toInt32) h0 n0) (by decide) (by decide) rfl rfl (by decide) (by decide) rfl pd_28II29D rfl rfl rfl (Nat.le_of_ble_eq_true rfl) rfl rfl ?_
  obtain ⟨s2, hs2⟩ : ∃ z, z = (f1 g2 ((p1.toUInt32 >>> ((6 : Int32) &&& 31).toUInt32).toInt32)) := ⟨_, rfl⟩
  rw [← hs2]
  show GoB0 l Z n0 OwnW.One1 h0 0 0 54 #[.val (.int p0), .val (.int p1), .val (.int p2), .val (.int p3), .val (.int p4), .val (.int p5), .val (.int g0), .val (.int g1), .val (.int g2), .val (.int g3), .val (.double s0), .second, .val (.double s1), .second, .unset, .unset, .unset, .unset, .unset, .unset, .unset, .unset, .unset, .unset, .unset, .unset, .unset, .unset, .unset] [(.double s2)]
  refine OwnW.dstore (pc' := 56) (L' := #[.val (.int p0), .val (.int p1), .val (.int p2), .val (.int p3), .val (.int p4), .val (.int p5), .val (.int g0), .val (.int g1), .val (.int g2), .val (.int g3), .val (.double s0), .second, .val (.double s1), .second, .val (.double s2), .second, .unset, .unset, .unset, .unset, .unset, .unset, .unset, .unset, .unset, .unset, .unset, .unset, .unset]) at_54 rfl rfl ?_
  refine OwnW.iload (pc' := 58) at_56 rfl rfl ?_
  refine OwnW.iloadN (pc' := 59) at_58 rfl rfl ?_
  refine OwnW.bipush (pc' := 61) (v := (9 : Int32)) at_59 rfl rfl ?_
  refine OwnW.iushr (pc' := 62) at_61 rfl ?_
  refine OwnW.callS0 (a0 := a0) (pc' := 65) (W := 0) (k' := 0) (n' := 0) (argsL := [(.int g3), (.int ((p1.toUInt32 >>> ((9 : Int32) &&& 31).toUInt32).toInt32))]) (rest := []) (St' := [(.double (f1 g3 ((p1.toUInt32 >>> ((9 : Int32) &&& 31).toUInt32).toInt32)))]) at_62 (hw _ (List.mem_of_getElem? (i := 0) rfl)) (hw _ (List.mem_of_getElem? (i := 1) rfl)) (hw _ (List.mem_of_getElem? (i := 2) rfl)) (hw _ (List.mem_of_getElem? (i := 3) rfl)) (by decide) (rm1 l Z a0 hw g3 ((p1.toUInt32 >>> ((9 : Int32) &&& 31).toUInt32).toInt32) h0 n0) (by decide) (by decide) rfl rfl (by decide) (by decide) rfl pd_28II29D rfl rfl rfl (Nat.le_of_ble_eq_true rfl) rfl rfl ?_
  obtain ⟨s3, hs3⟩ : ∃ z, z = (f1 g3 ((p1.toUInt32 >>> ((9 : Int32) &&& 31).toUInt32).toInt32)) := ⟨_, rfl⟩
  rw [← hs3]
  show GoB0 l Z n0 OwnW.One1 h0 0 0 65 #[.val (.int p0), .val (.int p1), .val (.int p2), .val (.int p3), .val (.int p4), .val (.int p5), .val (.int g0), .val (.int g1), .val (.int g2), .val (.int g3), .val (.double s0), .second, .val (.double s1), .second, .val (.double s2), .second, .unset, .unset, .unset, .unset, .unset, .unset, .unset, .unset, .unset, .unset, .unset, .unset, .unset] [(.double s3)]
  refine OwnW.dstore (pc' := 67) (L' := #[.val (.int p0), .val (.int p1), .val (.int p2), .val (.int p3), .val (.int p4), .val (.int p5), .val (.int g0), .val (.int g1), .val (.int g2), .val (.int g3), .val (.double s0), .second, .val (.double s1), .second, .val (.double s2), .second, .val (.double s3), .second, .unset, .unset, .unset, .unset, .unset, .unset, .unset, .unset, .unset, .unset, .unset]) at_65 rfl rfl ?_
  refine OwnW.iconst (pc' := 68) (v := (4 : Int32)) at_67 rfl rfl ?_
  refine OwnW.newP (a0 := a0) (pc' := 70) (cap := 4) (k' := 1) (n' := 4) at_68 (hw _ (List.mem_of_getElem? (i := 4) rfl)) (by decide) (by decide) (by decide) rfl rfl (by decide) (by decide) rfl ?_
  intro h1 kc1 ad1 gq1 E1 A1
  have ge_ad1 : n0 ≤ ad1 := Nat.le_trans Z0 (Nat.le_of_eq gq1.symm)
  have sz_ad1 : n0 ≤ h1.size := Nat.le_trans Z0 E1.1
  have V1 : Arv Z h1 ad1 kc1 .int (4 : Int32) [(.int (0 : Int32)), (.int (0 : Int32)), (.int (0 : Int32)), (.int (0 : Int32))] (.int (0 : Int32)) := (Arv.new A1 (by decide)).pad (pad_rep [] _ 4)
  refine OwnW.dup (pc' := 71) at_70 rfl rfl ?_
  refine OwnW.iconst (pc' := 72) (v := (0 : Int32)) at_71 rfl rfl ?_
  refine OwnW.iload (pc' := 74) at_72 rfl rfl ?_
  obtain ⟨cl2, Ar2, qk2, Sz2, Mn2, Hv2, Gf2⟩ := id V1
  refine OwnW.stI (pc' := 75) at_74 Ar2 (inb_of Sz2 ⟨by decide, by decide⟩) ge_ad1 rfl ?_
  intro h2 W2
  have sz3 : n0 ≤ h2.size := (by rw [W2.size]; exact sz_ad1)
  have V2 : Arv Z h2 ad1 kc1 .int (4 : Int32) [(.int g0), (.int (0 : Int32)), (.int (0 : Int32)), (.int (0 : Int32))] (.int (0 : Int32)) := Arv.set Ar2 qk2 Sz2 Mn2 Hv2 Gf2 rfl W2 0 rfl (Nat.le_of_ble_eq_true rfl)
  refine OwnW.dup (pc' := 76) at_75 rfl rfl ?_
  refine OwnW.iconst (pc' := 77) (v := (1 : Int32)) at_76 rfl rfl ?_
  refine OwnW.iload (pc' := 79) at_77 rfl rfl ?_
  obtain ⟨cl4, Ar4, qk4, Sz4, Mn4, Hv4, Gf4⟩ := id V2
  refine OwnW.stI (pc' := 80) at_79 Ar4 (inb_of Sz4 ⟨by decide, by decide⟩) ge_ad1 rfl ?_
  intro h4 W4
  have sz5 : n0 ≤ h4.size := (by rw [W4.size]; exact sz3)
  have V4 : Arv Z h4 ad1 kc1 .int (4 : Int32) [(.int g0), (.int g1), (.int (0 : Int32)), (.int (0 : Int32))] (.int (0 : Int32)) := Arv.set Ar4 qk4 Sz4 Mn4 Hv4 Gf4 rfl W4 1 rfl (Nat.le_of_ble_eq_true rfl)
  refine OwnW.dup (pc' := 81) at_80 rfl rfl ?_
  refine OwnW.iconst (pc' := 82) (v := (2 : Int32)) at_81 rfl rfl ?_
  refine OwnW.iload (pc' := 84) at_82 rfl rfl ?_
  obtain ⟨cl6, Ar6, qk6, Sz6, Mn6, Hv6, Gf6⟩ := id V4
  refine OwnW.stI (pc' := 85) at_84 Ar6 (inb_of Sz6 ⟨by decide, by decide⟩) ge_ad1 rfl ?_
  intro h6 W6
  have sz7 : n0 ≤ h6.size := (by rw [W6.size]; exact sz5)
  have V6 : Arv Z h6 ad1 kc1 .int (4 : Int32) [(.int g0), (.int g1), (.int g2), (.int (0 : Int32))] (.int (0 : Int32)) := Arv.set Ar6 qk6 Sz6 Mn6 Hv6 Gf6 rfl W6 2 rfl (Nat.le_of_ble_eq_true rfl)
  refine OwnW.dup (pc' := 86) at_85 rfl rfl ?_
  refine OwnW.iconst (pc' := 87) (v := (3 : Int32)) at_86 rfl rfl ?_
  refine OwnW.iload (pc' := 89) at_87 rfl rfl ?_
  obtain ⟨cl8, Ar8, qk8, Sz8, Mn8, Hv8, Gf8⟩ := id V6
  refine OwnW.stI (pc' := 90) at_89 Ar8 (inb_of Sz8 ⟨by decide, by decide⟩) ge_ad1 rfl ?_
  intro h8 W8
  have sz9 : n0 ≤ h8.size := (by rw [W8.size]; exact sz7)
  have V8 : Arv Z h8 ad1 kc1 .int (4 : Int32) [(.int g0), (.int g1), (.int g2), (.int g3)] (.int (0 : Int32)) := Arv.set Ar8 qk8 Sz8 Mn8 Hv8 Gf8 rfl W8 3 rfl (Nat.le_of_ble_eq_true rfl)
  refine OwnW.astore (pc' := 92) (L' := #[.val (.int p0), .val (.int p1), .val (.int p2), .val (.int p3), .val (.int p4), .val (.int p5), .val (.int g0), .val (.int g1), .val (.int g2), .val (.int g3), .val (.double s0), .second, .val (.double s1), .second, .val (.double s2), .second, .val (.double s3), .second, .val (.ref ad1), .unset, .unset, .unset, .unset, .unset, .unset, .unset, .unset, .unset, .unset]) at_90 (rfl) rfl rfl ?_
  refine OwnW.iconst (pc' := 93) (v := (4 : Int32)) at_92 rfl rfl ?_
  refine OwnW.newP (a0 := a0) (pc' := 95) (cap := 4) (k' := 2) (n' := 8) at_93 (hw _ (List.mem_of_getElem? (i := 5) rfl)) (by decide) (by decide) (by decide) rfl rfl (by decide) (by decide) rfl ?_
  intro h10 kc10 ad10 gq10 E10 A10
  have lt_ad1_ad10 : @LT.lt Nat _ ad1 ad10 := Nat.lt_of_lt_of_le (V8).lt (Nat.le_of_eq gq10.symm)
  have ge_ad10 : n0 ≤ ad10 := Nat.le_trans sz9 (Nat.le_of_eq gq10.symm)
  have sz_ad10 : n0 ≤ h10.size := Nat.le_trans sz9 E10.1
  have V10 : Arv Z h10 ad10 kc10 .double (4 : Int32) [(.double (0 : UInt64)), (.double (0 : UInt64)), (.double (0 : UInt64)), (.double (0 : UInt64))] (.double (0 : UInt64)) := (Arv.new A10 (by decide)).pad (pad_rep [] _ 4)
  refine OwnW.dup (pc' := 96) at_95 rfl rfl ?_
  refine OwnW.iconst (pc' := 97) (v := (0 : Int32)) at_96 rfl rfl ?_
  refine OwnW.dload (pc' := 99) at_97 rfl rfl ?_
  obtain ⟨cl11, Ar11, qk11, Sz11, Mn11, Hv11, Gf11⟩ := id V10
  refine OwnW.stD (pc' := 100) at_99 Ar11 (inb_of Sz11 ⟨by decide, by decide⟩) ge_ad10 rfl ?_
  intro h11 W11
  have sz12 : n0 ≤ h11.size := (by rw [W11.size]; exact sz_ad10)
  have V11 : Arv Z h11 ad10 kc10 .double (4 : Int32) [(.double s0), (.double (0 : UInt64)), (.double (0 : UInt64)), (.double (0 : UInt64))] (.double (0 : UInt64)) := Arv.set Ar11 qk11 Sz11 Mn11 Hv11 Gf11 rfl W11 0 rfl (Nat.le_of_ble_eq_true rfl)
  refine OwnW.dup (pc' := 101) at_100 rfl rfl ?_
  refine OwnW.iconst (pc' := 102) (v := (1 : Int32)) at_101 rfl rfl ?_
  refine OwnW.dload (pc' := 104) at_102 rfl rfl ?_
  obtain ⟨cl13, Ar13, qk13, Sz13, Mn13, Hv13, Gf13⟩ := id V11
  refine OwnW.stD (pc' := 105) at_104 Ar13 (inb_of Sz13 ⟨by decide, by decide⟩) ge_ad10 rfl ?_
  intro h13 W13
  have sz14 : n0 ≤ h13.size := (by rw [W13.size]; exact sz12)
  have V13 : Arv Z h13 ad10 kc10 .double (4 : Int32) [(.double s0), (.double s1), (.double (0 : UInt64)), (.double (0 : UInt64))] (.double (0 : UInt64)) := Arv.set Ar13 qk13 Sz13 Mn13 Hv13 Gf13 rfl W13 1 rfl (Nat.le_of_ble_eq_true rfl)
  refine OwnW.dup (pc' := 106) at_105 rfl rfl ?_
  refine OwnW.iconst (pc' := 107) (v := (2 : Int32)) at_106 rfl rfl ?_
  refine OwnW.dload (pc' := 109) at_107 rfl rfl ?_
  obtain ⟨cl15, Ar15, qk15, Sz15, Mn15, Hv15, Gf15⟩ := id V13
  refine OwnW.stD (pc' := 110) at_109 Ar15 (inb_of Sz15 ⟨by decide, by decide⟩) ge_ad10 rfl ?_
  intro h15 W15
  have sz16 : n0 ≤ h15.size := (by rw [W15.size]; exact sz14)
  have V15 : Arv Z h15 ad10 kc10 .double (4 : Int32) [(.double s0), (.double s1), (.double s2), (.double (0 : UInt64))] (.double (0 : UInt64)) := Arv.set Ar15 qk15 Sz15 Mn15 Hv15 Gf15 rfl W15 2 rfl (Nat.le_of_ble_eq_true rfl)
  refine OwnW.dup (pc' := 111) at_110 rfl rfl ?_
  refine OwnW.iconst (pc' := 112) (v := (3 : Int32)) at_111 rfl rfl ?_
  refine OwnW.dload (pc' := 114) at_112 rfl rfl ?_
  obtain ⟨cl17, Ar17, qk17, Sz17, Mn17, Hv17, Gf17⟩ := id V15
  refine OwnW.stD (pc' := 115) at_114 Ar17 (inb_of Sz17 ⟨by decide, by decide⟩) ge_ad10 rfl ?_
  intro h17 W17
  have sz18 : n0 ≤ h17.size := (by rw [W17.size]; exact sz16)
  have V17 : Arv Z h17 ad10 kc10 .double (4 : Int32) [(.double s0), (.double s1), (.double s2), (.double s3)] (.double (0 : UInt64)) := Arv.set Ar17 qk17 Sz17 Mn17 Hv17 Gf17 rfl W17 3 rfl (Nat.le_of_ble_eq_true rfl)
  refine OwnW.astore (pc' := 117) (L' := #[.val (.int p0), .val (.int p1), .val (.int p2), .val (.int p3), .val (.int p4), .val (.int p5), .val (.int g0), .val (.int g1), .val (.int g2), .val (.int g3), .val (.double s0), .second, .val (.double s1), .second, .val (.double s2), .second, .val (.double s3), .second, .val (.ref ad1), .val (.ref ad10), .unset, .unset, .unset, .unset, .unset, .unset, .unset, .unset, .unset]) at_115 (rfl) rfl rfl ?_
  refine OwnW.iconst (pc' := 118) (v := (4 : Int32)) at_117 rfl rfl ?_
  refine OwnW.newP (a0 := a0) (pc' := 120) (cap := 4) (k' := 3) (n' := 12) at_118 (hw _ (List.mem_of_getElem? (i := 5) rfl)) (by decide) (by decide) (by decide) rfl rfl (by decide) (by decide) rfl ?_
  intro h19 kc19 ad19 gq19 E19 A19
  have lt_ad1_ad19 : @LT.lt Nat _ ad1 ad19 := Nat.lt_of_lt_of_le ((((((V8.ext E10).other W11 (Nat.ne_of_lt lt_ad1_ad10)).other W13 (Nat.ne_of_lt lt_ad1_ad10)).other W15 (Nat.ne_of_lt lt_ad1_ad10)).other W17 (Nat.ne_of_lt lt_ad1_ad10))).lt (Nat.le_of_eq gq19.symm)
  have lt_ad10_ad19 : @LT.lt Nat _ ad10 ad19 := Nat.lt_of_lt_of_le (V17).lt (Nat.le_of_eq gq19.symm)
  have ge_ad19 : n0 ≤ ad19 := Nat.le_trans sz18 (Nat.le_of_eq gq19.symm)
  have sz_ad19 : n0 ≤ h19.size := Nat.le_trans sz18 E19.1
  have V19 : Arv Z h19 ad19 kc19 .double (4 : Int32) [(.double (0 : UInt64)), (.double (0 : UInt64)), (.double (0 : UInt64)), (.double (0 : UInt64))] (.double (0 : UInt64)) := (Arv.new A19 (by decide)).pad (pad_rep [] _ 4)
  refine OwnW.dup (pc' := 121) at_120 rfl rfl ?_
  refine OwnW.iconst (pc' := 122) (v := (0 : Int32)) at_121 rfl rfl ?_
  refine OwnW.iloadN (pc' := 123) at_122 rfl rfl ?_
  refine OwnW.i2d (pc' := 124) at_123 rfl rfl ?_
  obtain ⟨cl20, Ar20, qk20, Sz20, Mn20, Hv20, Gf20⟩ := id V19
  refine OwnW.stD (pc' := 125) at_124 Ar20 (inb_of Sz20 ⟨by decide, by decide⟩) ge_ad19 rfl ?_
  intro h20 W20
  have sz21 : n0 ≤ h20.size := (by rw [W20.size]; exact sz_ad19)
  have V20 : Arv Z h20 ad19 kc19 .double (4 : Int32) [(.double (FP.i2d p2)), (.double (0 : UInt64)), (.double (0 : UInt64)), (.double (0 : UInt64))] (.double (0 : UInt64)) := Arv.set Ar20 qk20 Sz20 Mn20 Hv20 Gf20 rfl W20 0 rfl (Nat.le_of_ble_eq_true rfl)
  refine OwnW.dup (pc' := 126) at_125 rfl rfl ?_
  refine OwnW.iconst (pc' := 127) (v := (1 : Int32)) at_126 rfl rfl ?_
  refine OwnW.iloadN (pc' := 128) at_127 rfl rfl ?_
  refine OwnW.i2d (pc' := 129) at_128 rfl rfl ?_
  obtain ⟨cl22, Ar22, qk22, Sz22, Mn22, Hv22, Gf22⟩ := id V20
  refine OwnW.stD (pc' := 130) at_129 Ar22 (inb_of Sz22 ⟨by decide, by decide⟩) ge_ad19 rfl ?_
  intro h22 W22
  have sz23 : n0 ≤ h22.size := (by rw [W22.size]; exact sz21)
  have V22 : Arv Z h22 ad19 kc19 .double (4 : Int32) [(.double (FP.i2d p2)), (.double (FP.i2d p3)), (.double (0 : UInt64)), (.double (0 : UInt64))] (.double (0 : UInt64)) := Arv.set Ar22 qk22 Sz22 Mn22 Hv22 Gf22 rfl W22 1 rfl (Nat.le_of_ble_eq_true rfl)
  refine OwnW.dup (pc' := 131) at_130 rfl rfl ?_
  refine OwnW.iconst (pc' := 132) (v := (2 : Int32)) at_131 rfl rfl ?_
  refine OwnW.iload (pc' := 134) at_132 rfl rfl ?_
  refine OwnW.i2d (pc' := 135) at_134 rfl rfl ?_
  obtain ⟨cl24, Ar24, qk24, Sz24, Mn24, Hv24, Gf24⟩ := id V22
  refine OwnW.stD (pc' := 136) at_135 Ar24 (inb_of Sz24 ⟨by decide, by decide⟩) ge_ad19 rfl ?_
  intro h24 W24
  have sz25 : n0 ≤ h24.size := (by rw [W24.size]; exact sz23)
  have V24 : Arv Z h24 ad19 kc19 .double (4 : Int32) [(.double (FP.i2d p2)), (.double (FP.i2d p3)), (.double (FP.i2d p4)), (.double (0 : UInt64))] (.double (0 : UInt64)) := Arv.set Ar24 qk24 Sz24 Mn24 Hv24 Gf24 rfl W24 2 rfl (Nat.le_of_ble_eq_true rfl)
  refine OwnW.dup (pc' := 137) at_136 rfl rfl ?_
  refine OwnW.iconst (pc' := 138) (v := (3 : Int32)) at_137 rfl rfl ?_
  refine OwnW.iload (pc' := 140) at_138 rfl rfl ?_
  refine OwnW.i2d (pc' := 141) at_140 rfl rfl ?_
  obtain ⟨cl26, Ar26, qk26, Sz26, Mn26, Hv26, Gf26⟩ := id V24
  refine OwnW.stD (pc' := 142) at_141 Ar26 (inb_of Sz26 ⟨by decide, by decide⟩) ge_ad19 rfl ?_
  intro h26 W26
  have sz27 : n0 ≤ h26.size := (by rw [W26.size]; exact sz25)
  have V26 : Arv Z h26 ad19 kc19 .double (4 : Int32) [(.double (FP.i2d p2)), (.double (FP.i2d p3)), (.double (FP.i2d p4)), (.double (FP.i2d p5))] (.double (0 : UInt64)) := Arv.set Ar26 qk26 Sz26 Mn26 Hv26 Gf26 rfl W26 3 rfl (Nat.le_of_ble_eq_true rfl)
  refine OwnW.astore (pc' := 144) (L' := #[.val (.int p0), .val (.int p1), .val (.int p2), .val (.int p3), .val (.int p4), .val (.int p5), .val (.int g0), .val (.int g1), .val (.int g2), .val (.int g3), .val (.double s0), .second, .val (.double s1), .second, .val (.double s2), .second, .val (.double s3), .second, .val (.ref ad1), .val (.ref ad10), .val (.ref ad19), .unset, .unset, .unset, .unset, .unset, .unset, .unset, .unset]) at_142 (rfl) rfl rfl ?_
  refine OwnW.newO (a0 := a0) (pc' := 147) (k' := 4) (n' := 16) at_144 (hw _ (List.mem_of_getElem? (i := 6) rfl)) (hw _ (List.mem_of_getElem? (i := 7) rfl)) (hw _ (List.mem_of_getElem? (i := 8) rfl)) rfl rfl (by decide) (by decide) rfl ?_
  intro h28 ad28 gq28 E28 A28 D28
  have lt_ad1_ad28 : @LT.lt Nat _ ad1 ad28 := Nat.lt_of_lt_of_le (((((((((((V8.ext E10).other W11 (Nat.ne_of_lt lt_ad1_ad10)).other W13 (Nat.ne_of_lt lt_ad1_ad10)).other W15 (Nat.ne_of_lt lt_ad1_ad10)).other W17 (Nat.ne_of_lt lt_ad1_ad10)).ext E19).other W20 (Nat.ne_of_lt lt_ad1_ad19)).other W22 (Nat.ne_of_lt lt_ad1_ad19)).other W24 (Nat.ne_of_lt lt_ad1_ad19)).other W26 (Nat.ne_of_lt lt_ad1_ad19))).lt (Nat.le_of_eq gq28.symm)
  have lt_ad10_ad28 : @LT.lt Nat _ ad10 ad28 := Nat.lt_of_lt_of_le ((((((V17.ext E19).other W20 (Nat.ne_of_lt lt_ad10_ad19)).other W22 (Nat.ne_of_lt lt_ad10_ad19)).other W24 (Nat.ne_of_lt lt_ad10_ad19)).other W26 (Nat.ne_of_lt lt_ad10_ad19))).lt (Nat.le_of_eq gq28.symm)
  have lt_ad19_ad28 : @LT.lt Nat _ ad19 ad28 := Nat.lt_of_lt_of_le (V26).lt (Nat.le_of_eq gq28.symm)
  have ge_ad28 : n0 ≤ ad28 := Nat.le_trans sz27 (Nat.le_of_eq gq28.symm)
  have sz_ad28 : n0 ≤ h28.size := Nat.le_trans sz27 E28.1
  have F28_groups : Fld Z h28 ad28 "com/example/sieve_for_links/sieveforlinks/VirtualLinks" "groups" "[I" .null := D28 (Or.inr (hw _ (List.mem_of_getElem? (i := 28) rfl))) (ty := (.array .int)) (by decide)
  have F28_shares : Fld Z h28 ad28 "com/example/sieve_for_links/sieveforlinks/VirtualLinks" "shares" "[D" .null := D28 (Or.inr (hw _ (List.mem_of_getElem? (i := 30) rfl))) (ty := (.array .double)) (by decide)
  have F28_members : Fld Z h28 ad28 "com/example/sieve_for_links/sieveforlinks/VirtualLinks" "members" "[I" .null := D28 (Or.inr (hw _ (List.mem_of_getElem? (i := 32) rfl))) (ty := (.array .int)) (by decide)
  have F28_memberStarts : Fld Z h28 ad28 "com/example/sieve_for_links/sieveforlinks/VirtualLinks" "memberStarts" "[I" .null := D28 (Or.inr (hw _ (List.mem_of_getElem? (i := 34) rfl))) (ty := (.array .int)) (by decide)
  refine OwnW.dup (pc' := 148) at_147 rfl rfl ?_
  refine OwnW.aload (pc' := 150) at_148 rfl (rfl) rfl ?_
  refine OwnW.aload (pc' := 152) at_150 rfl (rfl) rfl ?_
  refine OwnW.iconst (pc' := 153) (v := (3 : Int32)) at_152 rfl rfl ?_
  have F29 := (((((((((((V8.ext E10).other W11 (Nat.ne_of_lt lt_ad1_ad10)).other W13 (Nat.ne_of_lt lt_ad1_ad10)).other W15 (Nat.ne_of_lt lt_ad1_ad10)).other W17 (Nat.ne_of_lt lt_ad1_ad10)).ext E19).other W20 (Nat.ne_of_lt lt_ad1_ad19)).other W22 (Nat.ne_of_lt lt_ad1_ad19)).other W24 (Nat.ne_of_lt lt_ad1_ad19)).other W26 (Nat.ne_of_lt lt_ad1_ad19)).ext E28)
  have F30 := ((((((V17.ext E19).other W20 (Nat.ne_of_lt lt_ad10_ad19)).other W22 (Nat.ne_of_lt lt_ad10_ad19)).other W24 (Nat.ne_of_lt lt_ad10_ad19)).other W26 (Nat.ne_of_lt lt_ad10_ad19)).ext E28)
  refine OwnW.callI (a0 := a0) (pc' := 156) (W := 1) (k' := 8) (n' := 33) (argsL := [(.ref ad1), (.ref ad10), (.int (3 : Int32))]) (rest := [(.ref ad28)]) at_153 rfl (hw _ (List.mem_of_getElem? (i := 9) rfl)) (hw _ (List.mem_of_getElem? (i := 10) rfl)) (hw _ (List.mem_of_getElem? (i := 8) rfl)) (hw _ (List.mem_of_getElem? (i := 11) rfl)) (by decide) (rm2 l Z a0 hw ad28 ad1 ad10 kc1 kc10 g0 g1 g2 g3 s0 s1 s2 s3 h28 n0 sz_ad28 ge_ad28 A28 F28_groups F28_shares F28_members F28_memberStarts F29 F30 (own_g4 hg0) (own_g4 hg1) (own_g4 hg2) (own_g4 hg3) (own_sh hs0) (own_sh hs1) (own_sh hs2) (own_sh hs3)) (by decide) (by decide) rfl rfl (by decide) (by decide) rfl pd_285bI5bDI29V rfl rfl rfl (Nat.le_of_ble_eq_true rfl) rfl ?_
  rintro h31 v31 ⟨ad31_0, ad31_1, kc31_0, kc31_1, rfl, K31, gl31_0, gl31_1, nn31_0_1, Fc31_0, Fc31_1, Fc31_2, Fc31_3, Fc31_4, Fc31_5⟩
  have lt_ad1_ad31_0 : @LT.lt Nat _ ad1 ad31_0 := Nat.lt_of_lt_of_le (F29).lt gl31_0
  have lt_ad10_ad31_0 : @LT.lt Nat _ ad10 ad31_0 := Nat.lt_of_lt_of_le (F30).lt gl31_0
  have lt_ad19_ad31_0 : @LT.lt Nat _ ad19 ad31_0 := Nat.lt_of_lt_of_le ((V26.ext E28)).lt gl31_0
  have lt_ad28_ad31_0 : @LT.lt Nat _ ad28 ad31_0 := Nat.lt_of_lt_of_le (A28).lt gl31_0
  have ge_ad31_0 : n0 ≤ ad31_0 := Nat.le_trans sz_ad28 gl31_0
  have lt_ad1_ad31_1 : @LT.lt Nat _ ad1 ad31_1 := Nat.lt_of_lt_of_le (F29).lt gl31_1
  have lt_ad10_ad31_1 : @LT.lt Nat _ ad10 ad31_1 := Nat.lt_of_lt_of_le (F30).lt gl31_1
  have lt_ad19_ad31_1 : @LT.lt Nat _ ad19 ad31_1 := Nat.lt_of_lt_of_le ((V26.ext E28)).lt gl31_1
  have lt_ad28_ad31_1 : @LT.lt Nat _ ad28 ad31_1 := Nat.lt_of_lt_of_le (A28).lt gl31_1
  have ge_ad31_1 : n0 ≤ ad31_1 := Nat.le_trans sz_ad28 gl31_1
  have sz32 : n0 ≤ h31.size := Nat.le_trans sz_ad28 K31.1
  show GoB0 l Z n0 OwnW.One1 h31 8 33 156 #[.val (.int p0), .val (.int p1), .val (.int p2), .val (.int p3), .val (.int p4), .val (.int p5), .val (.int g0), .val (.int g1), .val (.int g2), .val (.int g3), .val (.double s0), .second, .val (.double s1), .second, .val (.double s2), .second, .val (.double s3), .second, .val (.ref ad1), .val (.ref ad10), .val (.ref ad19), .unset, .unset, .unset, .unset, .unset, .unset, .unset, .unset] [(.ref ad28)]
  refine OwnW.astore (pc' := 158) (L' := #[.val (.int p0), .val (.int p1), .val (.int p2), .val (.int p3), .val (.int p4), .val (.int p5), .val (.int g0), .val (.int g1), .val (.int g2), .val (.int g3), .val (.double s0), .second, .val (.double s1), .second, .val (.double s2), .second, .val (.double s3), .second, .val (.ref ad1), .val (.ref ad10), .val (.ref ad19), .val (.ref ad28), .unset, .unset, .unset, .unset, .unset, .unset, .unset]) at_156 (rfl) rfl rfl ?_
  refine OwnW.iconst (pc' := 159) (v := (4 : Int32)) at_158 rfl rfl ?_
  refine OwnW.newP (a0 := a0) (pc' := 161) (cap := 4) (k' := 9) (n' := 37) at_159 (hw _ (List.mem_of_getElem? (i := 5) rfl)) (by decide) (by decide) (by decide) rfl rfl (by decide) (by decide) rfl ?_
  intro h33 kc33 ad33 gq33 E33 A33
  have lt_ad1_ad33 : @LT.lt Nat _ ad1 ad33 := Nat.lt_of_lt_of_le ((F29.keep K31 (ninS (Nat.ne_of_lt lt_ad1_ad28) nin0))).lt (Nat.le_of_eq gq33.symm)
  have lt_ad10_ad33 : @LT.lt Nat _ ad10 ad33 := Nat.lt_of_lt_of_le ((F30.keep K31 (ninS (Nat.ne_of_lt lt_ad10_ad28) nin0))).lt (Nat.le_of_eq gq33.symm)
  have lt_ad19_ad33 : @LT.lt Nat _ ad19 ad33 := Nat.lt_of_lt_of_le (((V26.ext E28).keep K31 (ninS (Nat.ne_of_lt lt_ad19_ad28) nin0))).lt (Nat.le_of_eq gq33.symm)
  have lt_ad28_ad33 : @LT.lt Nat _ ad28 ad33 := Nat.lt_of_lt_of_le (Fc31_0).lt (Nat.le_of_eq gq33.symm)
  have lt_ad31_0_ad33 : @LT.lt Nat _ ad31_0 ad33 := Nat.lt_of_lt_of_le (Fc31_4).lt (Nat.le_of_eq gq33.symm)
  have lt_ad31_1_ad33 : @LT.lt Nat _ ad31_1 ad33 := Nat.lt_of_lt_of_le (Fc31_5).lt (Nat.le_of_eq gq33.symm)
  have ge_ad33 : n0 ≤ ad33 := Nat.le_trans sz32 (Nat.le_of_eq gq33.symm)
  have sz_ad33 : n0 ≤ h33.size := Nat.le_trans sz32 E33.1
  have V33 : Arv Z h33 ad33 kc33 .double (4 : Int32) [(.double (0 : UInt64)), (.double (0 : UInt64)), (.double (0 : UInt64)), (.double (0 : UInt64))] (.double (0 : UInt64)) := (Arv.new A33 (by decide)).pad (pad_rep [] _ 4)
  refine OwnW.dup (pc' := 162) at_161 rfl rfl ?_
  refine OwnW.iconst (pc' := 163) (v := (0 : Int32)) at_162 rfl rfl ?_
  refine OwnW.ldc2D (a0 := a0) (pc' := 166) (v := (4619567317775286272 : UInt64)) at_163 (hw _ (List.mem_of_getElem? (i := 35) rfl)) rfl ?_
  obtain ⟨cl34, Ar34, qk34, Sz34, Mn34, Hv34, Gf34⟩ := id V33
  refine OwnW.stD (pc' := 167) at_166 Ar34 (inb_of Sz34 ⟨by decide, by decide⟩) ge_ad33 rfl ?_
  intro h34 W34
  have sz35 : n0 ≤ h34.size := (by rw [W34.size]; exact sz_ad33)
  have V34 : Arv Z h34 ad33 kc33 .double (4 : Int32) [(.double (4619567317775286272 : UInt64)), (.double (0 : UInt64)), (.double (0 : UInt64)), (.double (0 : UInt64))] (.double (0 : UInt64)) := Arv.set Ar34 qk34 Sz34 Mn34 Hv34 Gf34 rfl W34 0 rfl (Nat.le_of_ble_eq_true rfl)
  refine OwnW.dup (pc' := 168) at_167 rfl rfl ?_
  refine OwnW.iconst (pc' := 169) (v := (1 : Int32)) at_168 rfl rfl ?_
  refine OwnW.ldc2D (a0 := a0) (pc' := 172) (v := (4619567317775286272 : UInt64)) at_169 (hw _ (List.mem_of_getElem? (i := 35) rfl)) rfl ?_
  obtain ⟨cl36, Ar36, qk36, Sz36, Mn36, Hv36, Gf36⟩ := id V34
  refine OwnW.stD (pc' := 173) at_172 Ar36 (inb_of Sz36 ⟨by decide, by decide⟩) ge_ad33 rfl ?_
  intro h36 W36
  have sz37 : n0 ≤ h36.size := (by rw [W36.size]; exact sz35)
  have V36 : Arv Z h36 ad33 kc33 .double (4 : Int32) [(.double (4619567317775286272 : UInt64)), (.double (4619567317775286272 : UInt64)), (.double (0 : UInt64)), (.double (0 : UInt64))] (.double (0 : UInt64)) := Arv.set Ar36 qk36 Sz36 Mn36 Hv36 Gf36 rfl W36 1 rfl (Nat.le_of_ble_eq_true rfl)
  refine OwnW.dup (pc' := 174) at_173 rfl rfl ?_
  refine OwnW.iconst (pc' := 175) (v := (2 : Int32)) at_174 rfl rfl ?_
  refine OwnW.ldc2D (a0 := a0) (pc' := 178) (v := (4619567317775286272 : UInt64)) at_175 (hw _ (List.mem_of_getElem? (i := 35) rfl)) rfl ?_
  obtain ⟨cl38, Ar38, qk38, Sz38, Mn38, Hv38, Gf38⟩ := id V36
  refine OwnW.stD (pc' := 179) at_178 Ar38 (inb_of Sz38 ⟨by decide, by decide⟩) ge_ad33 rfl ?_
  intro h38 W38
  have sz39 : n0 ≤ h38.size := (by rw [W38.size]; exact sz37)
  have V38 : Arv Z h38 ad33 kc33 .double (4 : Int32) [(.double (4619567317775286272 : UInt64)), (.double (4619567317775286272 : UInt64)), (.double (4619567317775286272 : UInt64)), (.double (0 : UInt64))] (.double (0 : UInt64)) := Arv.set Ar38 qk38 Sz38 Mn38 Hv38 Gf38 rfl W38 2 rfl (Nat.le_of_ble_eq_true rfl)
  refine OwnW.dup (pc' := 180) at_179 rfl rfl ?_
  refine OwnW.iconst (pc' := 181) (v := (3 : Int32)) at_180 rfl rfl ?_
  refine OwnW.ldc2D (a0 := a0) (pc' := 184) (v := (4619567317775286272 : UInt64)) at_181 (hw _ (List.mem_of_getElem? (i := 35) rfl)) rfl ?_
  obtain ⟨cl40, Ar40, qk40, Sz40, Mn40, Hv40, Gf40⟩ := id V38
  refine OwnW.stD (pc' := 185) at_184 Ar40 (inb_of Sz40 ⟨by decide, by decide⟩) ge_ad33 rfl ?_
  intro h40 W40
  have sz41 : n0 ≤ h40.size := (by rw [W40.size]; exact sz39)
  have V40 : Arv Z h40 ad33 kc33 .double (4 : Int32) [(.double (4619567317775286272 : UInt64)), (.double (4619567317775286272 : UInt64)), (.double (4619567317775286272 : UInt64)), (.double (4619567317775286272 : UInt64))] (.double (0 : UInt64)) := Arv.set Ar40 qk40 Sz40 Mn40 Hv40 Gf40 rfl W40 3 rfl (Nat.le_of_ble_eq_true rfl)
  refine OwnW.astore (pc' := 187) (L' := #[.val (.int p0), .val (.int p1), .val (.int p2), .val (.int p3), .val (.int p4), .val (.int p5), .val (.int g0), .val (.int g1), .val (.int g2), .val (.int g3), .val (.double s0), .second, .val (.double s1), .second, .val (.double s2), .second, .val (.double s3), .second, .val (.ref ad1), .val (.ref ad10), .val (.ref ad19), .val (.ref ad28), .val (.ref ad33), .unset, .unset, .unset, .unset, .unset, .unset]) at_185 (rfl) rfl rfl ?_
  refine OwnW.aload (pc' := 189) at_187 rfl (rfl) rfl ?_
  refine OwnW.aload (pc' := 191) at_189 rfl (rfl) rfl ?_
  refine OwnW.aload (pc' := 193) at_191 rfl (rfl) rfl ?_
  have F42 := (((((Fc31_0.ext E33).wr W34).wr W36).wr W38).wr W40)
  have F43 := (((((Fc31_1.ext E33).other W34 (Or.inl (Nat.ne_of_lt lt_ad28_ad33))).other W36 (Or.inl (Nat.ne_of_lt lt_ad28_ad33))).other W38 (Or.inl (Nat.ne_of_lt lt_ad28_ad33))).other W40 (Or.inl (Nat.ne_of_lt lt_ad28_ad33)))
  have F44 := (((((Fc31_2.ext E33).other W34 (Or.inl (Nat.ne_of_lt lt_ad28_ad33))).other W36 (Or.inl (Nat.ne_of_lt lt_ad28_ad33))).other W38 (Or.inl (Nat.ne_of_lt lt_ad28_ad33))).other W40 (Or.inl (Nat.ne_of_lt lt_ad28_ad33)))
  have F45 := (((((Fc31_3.ext E33).other W34 (Or.inl (Nat.ne_of_lt lt_ad28_ad33))).other W36 (Or.inl (Nat.ne_of_lt lt_ad28_ad33))).other W38 (Or.inl (Nat.ne_of_lt lt_ad28_ad33))).other W40 (Or.inl (Nat.ne_of_lt lt_ad28_ad33)))
  have F46 := (((((Fc31_4.ext E33).other W34 (Nat.ne_of_lt lt_ad31_0_ad33)).other W36 (Nat.ne_of_lt lt_ad31_0_ad33)).other W38 (Nat.ne_of_lt lt_ad31_0_ad33)).other W40 (Nat.ne_of_lt lt_ad31_0_ad33))
  have F47 := (((((Fc31_5.ext E33).other W34 (Nat.ne_of_lt lt_ad31_1_ad33)).other W36 (Nat.ne_of_lt lt_ad31_1_ad33)).other W38 (Nat.ne_of_lt lt_ad31_1_ad33)).other W40 (Nat.ne_of_lt lt_ad31_1_ad33))
  have F48 := ((((((F30.keep K31 (ninS (Nat.ne_of_lt lt_ad10_ad28) nin0)).ext E33).other W34 (Nat.ne_of_lt lt_ad10_ad33)).other W36 (Nat.ne_of_lt lt_ad10_ad33)).other W38 (Nat.ne_of_lt lt_ad10_ad33)).other W40 (Nat.ne_of_lt lt_ad10_ad33))
  have F49 := (((((((V26.ext E28).keep K31 (ninS (Nat.ne_of_lt lt_ad19_ad28) nin0)).ext E33).other W34 (Nat.ne_of_lt lt_ad19_ad33)).other W36 (Nat.ne_of_lt lt_ad19_ad33)).other W38 (Nat.ne_of_lt lt_ad19_ad33)).other W40 (Nat.ne_of_lt lt_ad19_ad33))
  refine OwnW.callV (a0 := a0) (pc' := 196) (W := 0) (k' := 9) (n' := 37) (argsL := [(.ref ad19), (.ref ad33)]) (rest := []) at_193 (hw _ (List.mem_of_getElem? (i := 36) rfl)) (hw _ (List.mem_of_getElem? (i := 37) rfl)) (hw _ (List.mem_of_getElem? (i := 39) rfl)) (hw _ (List.mem_of_getElem? (i := 38) rfl)) (hw _ (List.mem_of_getElem? (i := 8) rfl)) (hw _ (List.mem_of_getElem? (i := 40) rfl)) (by decide) F42 (rm6 l Z a0 hw ad28 ad19 ad33 g0 g1 g2 g3 s0 s1 s2 s3 (FP.i2d p2) (FP.i2d p3) (FP.i2d p4) (FP.i2d p5) ad10 ad31_1 ad31_0 kc31_0 kc31_1 kc10 kc19 kc33 h40 n0 sz41 ge_ad33 F42 F43 F44 F45 F46 F47 F48 F49 V40 (own_g4 hg0) (own_g4 hg1) (own_g4 hg2) (own_g4 hg3) (own_M (own_mg hs0) (own_mg hs1) (own_mg hs2) (own_mg hs3)) (own_X p2 p3 p4 p5) (Ne.symm (Nat.ne_of_lt lt_ad28_ad33)) (Ne.symm (Nat.ne_of_lt lt_ad10_ad33)) (Ne.symm (Nat.ne_of_lt lt_ad31_1_ad33)) (Ne.symm (Nat.ne_of_lt lt_ad31_0_ad33)) (Ne.symm (Nat.ne_of_lt lt_ad19_ad33))) (by decide) (by decide) rfl rfl (by decide) (by decide) rfl pd_285bD5bD29V rfl rfl rfl (Nat.le_of_ble_eq_true rfl) rfl ?_
  rintro h50 v50 ⟨rfl, K50, Fc50_0⟩
  have sz51 : n0 ≤ h50.size := Nat.le_trans sz41 K50.1
  show GoB0 l Z n0 OwnW.One1 h50 9 37 196 #[.val (.int p0), .val (.int p1), .val (.int p2), .val (.int p3), .val (.int p4), .val (.int p5), .val (.int g0), .val (.int g1), .val (.int g2), .val (.int g3), .val (.double s0), .second, .val (.double s1), .second, .val (.double s2), .second, .val (.double s3), .second, .val (.ref ad1), .val (.ref ad10), .val (.ref ad19), .val (.ref ad28), .val (.ref ad33), .unset, .unset, .unset, .unset, .unset, .unset] []
  refine OwnW.iconst (pc' := 197) (v := (1 : Int32)) at_196 rfl rfl ?_
  refine OwnW.iload (pc' := 199) at_197 rfl rfl ?_
  refine OwnW.iload (pc' := 201) at_199 rfl rfl ?_
  refine OwnW.iload (pc' := 203) at_201 rfl rfl ?_
  refine OwnW.iload (pc' := 205) at_203 rfl rfl ?_
  refine OwnW.dload (pc' := 207) at_205 rfl rfl ?_
  refine OwnW.dload (pc' := 209) at_207 rfl rfl ?_
  refine OwnW.dload (pc' := 211) at_209 rfl rfl ?_
  refine OwnW.dload (pc' := 213) at_211 rfl rfl ?_
  refine OwnW.iloadN (pc' := 214) at_213 rfl rfl ?_
  refine OwnW.iloadN (pc' := 215) at_214 rfl rfl ?_
  refine OwnW.iload (pc' := 217) at_215 rfl rfl ?_
  refine OwnW.iload (pc' := 219) at_217 rfl rfl ?_
  refine OwnW.callS0 (a0 := a0) (pc' := 222) (W := 0) (k' := 9) (n' := 37) (argsL := [(.int (1 : Int32)), (.int g0), (.int g1), (.int g2), (.int g3), (.double s0), (.double s1), (.double s2), (.double s3), (.int p2), (.int p3), (.int p4), (.int p5)]) (rest := []) (St' := [(.double (f7 (1 : Int32) g0 g1 g2 g3 s0 s1 s2 s3 p2 p3 p4 p5))]) at_219 (hw _ (List.mem_of_getElem? (i := 41) rfl)) (hw _ (List.mem_of_getElem? (i := 42) rfl)) (hw _ (List.mem_of_getElem? (i := 2) rfl)) (hw _ (List.mem_of_getElem? (i := 43) rfl)) (by decide) (rm7 l Z a0 hw (1 : Int32) g0 g1 g2 g3 s0 s1 s2 s3 p2 p3 p4 p5 h50 n0 (own_mg hs0) (own_mg hs1) (own_mg hs2) (own_mg hs3)) (by decide) (by decide) rfl rfl (by decide) (by decide) rfl pd_28IIIIIDDDDIIII29D rfl rfl rfl (Nat.le_of_ble_eq_true rfl) rfl rfl ?_
  refine OwnW.dstore (pc' := 224) (L' := #[.val (.int p0), .val (.int p1), .val (.int p2), .val (.int p3), .val (.int p4), .val (.int p5), .val (.int g0), .val (.int g1), .val (.int g2), .val (.int g3), .val (.double s0), .second, .val (.double s1), .second, .val (.double s2), .second, .val (.double s3), .second, .val (.ref ad1), .val (.ref ad10), .val (.ref ad19), .val (.ref ad28), .val (.ref ad33), .val (.double (f7 (1 : Int32) g0 g1 g2 g3 s0 s1 s2 s3 p2 p3 p4 p5)), .second, .unset, .unset, .unset, .unset]) at_222 rfl rfl ?_
  refine OwnW.iconst (pc' := 225) (v := (2 : Int32)) at_224 rfl rfl ?_
  refine OwnW.iload (pc' := 227) at_225 rfl rfl ?_
  refine OwnW.iload (pc' := 229) at_227 rfl rfl ?_
  refine OwnW.iload (pc' := 231) at_229 rfl rfl ?_
  refine OwnW.iload (pc' := 233) at_231 rfl rfl ?_
  refine OwnW.dload (pc' := 235) at_233 rfl rfl ?_
  refine OwnW.dload (pc' := 237) at_235 rfl rfl ?_
  refine OwnW.dload (pc' := 239) at_237 rfl rfl ?_
  refine OwnW.dload (pc' := 241) at_239 rfl rfl ?_
  refine OwnW.iloadN (pc' := 242) at_241 rfl rfl ?_
  refine OwnW.iloadN (pc' := 243) at_242 rfl rfl ?_
  refine OwnW.iload (pc' := 245) at_243 rfl rfl ?_
  refine OwnW.iload (pc' := 247) at_245 rfl rfl ?_
  refine OwnW.callS0 (a0 := a0) (pc' := 250) (W := 0) (k' := 9) (n' := 37) (argsL := [(.int (2 : Int32)), (.int g0), (.int g1), (.int g2), (.int g3), (.double s0), (.double s1), (.double s2), (.double s3), (.int p2), (.int p3), (.int p4), (.int p5)]) (rest := []) (St' := [(.double (f7 (2 : Int32) g0 g1 g2 g3 s0 s1 s2 s3 p2 p3 p4 p5))]) at_247 (hw _ (List.mem_of_getElem? (i := 41) rfl)) (hw _ (List.mem_of_getElem? (i := 42) rfl)) (hw _ (List.mem_of_getElem? (i := 2) rfl)) (hw _ (List.mem_of_getElem? (i := 43) rfl)) (by decide) (rm7 l Z a0 hw (2 : Int32) g0 g1 g2 g3 s0 s1 s2 s3 p2 p3 p4 p5 h50 n0 (own_mg hs0) (own_mg hs1) (own_mg hs2) (own_mg hs3)) (by decide) (by decide) rfl rfl (by decide) (by decide) rfl pd_28IIIIIDDDDIIII29D rfl rfl rfl (Nat.le_of_ble_eq_true rfl) rfl rfl ?_
  refine OwnW.dstore (pc' := 252) (L' := #[.val (.int p0), .val (.int p1), .val (.int p2), .val (.int p3), .val (.int p4), .val (.int p5), .val (.int g0), .val (.int g1), .val (.int g2), .val (.int g3), .val (.double s0), .second, .val (.double s1), .second, .val (.double s2), .second, .val (.double s3), .second, .val (.ref ad1), .val (.ref ad10), .val (.ref ad19), .val (.ref ad28), .val (.ref ad33), .val (.double (f7 (1 : Int32) g0 g1 g2 g3 s0 s1 s2 s3 p2 p3 p4 p5)), .second, .val (.double (f7 (2 : Int32) g0 g1 g2 g3 s0 s1 s2 s3 p2 p3 p4 p5)), .second, .unset, .unset]) at_250 rfl rfl ?_
  refine OwnW.iconst (pc' := 253) (v := (3 : Int32)) at_252 rfl rfl ?_
  refine OwnW.iload (pc' := 255) at_253 rfl rfl ?_
  refine OwnW.iload (pc' := 257) at_255 rfl rfl ?_
  refine OwnW.iload (pc' := 259) at_257 rfl rfl ?_
  refine OwnW.iload (pc' := 261) at_259 rfl rfl ?_
  refine OwnW.dload (pc' := 263) at_261 rfl rfl ?_
  refine OwnW.dload (pc' := 265) at_263 rfl rfl ?_
  refine OwnW.dload (pc' := 267) at_265 rfl rfl ?_
  refine OwnW.dload (pc' := 269) at_267 rfl rfl ?_
  refine OwnW.iloadN (pc' := 270) at_269 rfl rfl ?_
  refine OwnW.iloadN (pc' := 271) at_270 rfl rfl ?_
  refine OwnW.iload (pc' := 273) at_271 rfl rfl ?_
  refine OwnW.iload (pc' := 275) at_273 rfl rfl ?_
  refine OwnW.callS0 (a0 := a0) (pc' := 278) (W := 0) (k' := 9) (n' := 37) (argsL := [(.int (3 : Int32)), (.int g0), (.int g1), (.int g2), (.int g3), (.double s0), (.double s1), (.double s2), (.double s3), (.int p2), (.int p3), (.int p4), (.int p5)]) (rest := []) (St' := [(.double (f7 (3 : Int32) g0 g1 g2 g3 s0 s1 s2 s3 p2 p3 p4 p5))]) at_275 (hw _ (List.mem_of_getElem? (i := 41) rfl)) (hw _ (List.mem_of_getElem? (i := 42) rfl)) (hw _ (List.mem_of_getElem? (i := 2) rfl)) (hw _ (List.mem_of_getElem? (i := 43) rfl)) (by decide) (rm7 l Z a0 hw (3 : Int32) g0 g1 g2 g3 s0 s1 s2 s3 p2 p3 p4 p5 h50 n0 (own_mg hs0) (own_mg hs1) (own_mg hs2) (own_mg hs3)) (by decide) (by decide) rfl rfl (by decide) (by decide) rfl pd_28IIIIIDDDDIIII29D rfl rfl rfl (Nat.le_of_ble_eq_true rfl) rfl rfl ?_
  refine OwnW.dstore (pc' := 280) (L' := #[.val (.int p0), .val (.int p1), .val (.int p2), .val (.int p3), .val (.int p4), .val (.int p5), .val (.int g0), .val (.int g1), .val (.int g2), .val (.int g3), .val (.double s0), .second, .val (.double s1), .second, .val (.double s2), .second, .val (.double s3), .second, .val (.ref ad1), .val (.ref ad10), .val (.ref ad19), .val (.ref ad28), .val (.ref ad33), .val (.double (f7 (1 : Int32) g0 g1 g2 g3 s0 s1 s2 s3 p2 p3 p4 p5)), .second, .val (.double (f7 (2 : Int32) g0 g1 g2 g3 s0 s1 s2 s3 p2 p3 p4 p5)), .second, .val (.double (f7 (3 : Int32) g0 g1 g2 g3 s0 s1 s2 s3 p2 p3 p4 p5)), .second]) at_278 rfl rfl ?_
  refine OwnW.aload (pc' := 282) at_280 rfl (rfl) rfl ?_
  refine OwnW.iconst (pc' := 283) (v := (0 : Int32)) at_282 rfl rfl ?_
  obtain ⟨cl52, Ar52, qk52, Sz52, Mn52, Hv52, Gf52⟩ := id Fc50_0
  refine OwnW.daload (pc' := 284) (v := (.double (0 : UInt64))) at_283 Ar52 (inb_of Sz52 ⟨by decide, by decide⟩) (Hv52.at (inb_of Sz52 ⟨by decide, by decide⟩) rfl) rfl ?_
  refine OwnW.dconst0 (pc' := 285) (v := (0 : UInt64)) at_284 (by decide +kernel) rfl ?_
  refine OwnW.dcmp (pc' := 286) (v := (0 : Int32)) at_285 (by decide +kernel) rfl ?_
  refine OwnW.ifcN (pc' := 289) at_286 ((if0 _ _).trans (teq (by decide)).2) rfl ?_
  refine OwnW.aload (pc' := 291) at_289 rfl (rfl) rfl ?_
  refine OwnW.iconst (pc' := 292) (v := (1 : Int32)) at_291 rfl rfl ?_
  obtain ⟨cl53, Ar53, qk53, Sz53, Mn53, Hv53, Gf53⟩ := id Fc50_0
  refine OwnW.daload (pc' := 293) (v := (.double (own_fold [s0, s1, s2, s3] [(FP.i2d p2), (FP.i2d p3), (FP.i2d p4), (FP.i2d p5)] (own_ML g0 g1 g2 g3) (own_is (1 : Int32) g0 g1 g2 g3).length ((own_SL g0 g1 g2 g3).getD 1 0) (0 : UInt64)))) at_292 Ar53 (inb_of Sz53 ⟨by decide, by decide⟩) (Hv53.at (inb_of Sz53 ⟨by decide, by decide⟩) rfl) rfl ?_
  refine OwnW.dload (pc' := 295) at_293 rfl rfl ?_
  refine OwnW.dcmp (pc' := 296) at_295 rfl rfl ?_
  rw [show (cmpValue (FP.dcmp (own_fold [s0, s1, s2, s3] [(FP.i2d p2), (FP.i2d p3), (FP.i2d p4), (FP.i2d p5)] (own_ML g0 g1 g2 g3) (own_is (1 : Int32) g0 g1 g2 g3).length ((own_SL g0 g1 g2 g3).getD 1 0) (0 : UInt64)) (f7 (1 : Int32) g0 g1 g2 g3 s0 s1 s2 s3 p2 p3 p4 p5)) .l) = (0 : Int32) from (dcmpV_eq (own_eq1 (own_g4 hg0) (own_g4 hg1) (own_g4 hg2) (own_g4 hg3)) (own_en1 (own_g4 hg0) (own_g4 hg1) (own_g4 hg2) (own_g4 hg3) (own_mg hs0) (own_mg hs1) (own_mg hs2) (own_mg hs3)) .l)]
  show GoB0 l Z n0 OwnW.One1 h50 9 37 296 #[.val (.int p0), .val (.int p1), .val (.int p2), .val (.int p3), .val (.int p4), .val (.int p5), .val (.int g0), .val (.int g1), .val (.int g2), .val (.int g3), .val (.double s0), .second, .val (.double s1), .second, .val (.double s2), .second, .val (.double s3), .second, .val (.ref ad1), .val (.ref ad10), .val (.ref ad19), .val (.ref ad28), .val (.ref ad33), .val (.double (f7 (1 : Int32) g0 g1 g2 g3 s0 s1 s2 s3 p2 p3 p4 p5)), .second, .val (.double (f7 (2 : Int32) g0 g1 g2 g3 s0 s1 s2 s3 p2 p3 p4 p5)), .second, .val (.double (f7 (3 : Int32) g0 g1 g2 g3 s0 s1 s2 s3 p2 p3 p4 p5)), .second] [(.int (0 : Int32))]
  refine OwnW.ifcN (pc' := 299) at_296 ((if0 _ _).trans (teq (by decide)).2) rfl ?_
  refine OwnW.aload (pc' := 301) at_299 rfl (rfl) rfl ?_
  refine OwnW.iconst (pc' := 302) (v := (2 : Int32)) at_301 rfl rfl ?_
  obtain ⟨cl54, Ar54, qk54, Sz54, Mn54, Hv54, Gf54⟩ := id Fc50_0
  refine OwnW.daload (pc' := 303) (v := (.double (own_fold [s0, s1, s2, s3] [(FP.i2d p2), (FP.i2d p3), (FP.i2d p4), (FP.i2d p5)] (own_ML g0 g1 g2 g3) (own_is (2 : Int32) g0 g1 g2 g3).length ((own_SL g0 g1 g2 g3).getD 2 0) (0 : UInt64)))) at_302 Ar54 (inb_of Sz54 ⟨by decide, by decide⟩) (Hv54.at (inb_of Sz54 ⟨by decide, by decide⟩) rfl) rfl ?_
  refine OwnW.dload (pc' := 305) at_303 rfl rfl ?_
  refine OwnW.dcmp (pc' := 306) at_305 rfl rfl ?_
  rw [show (cmpValue (FP.dcmp (own_fold [s0, s1, s2, s3] [(FP.i2d p2), (FP.i2d p3), (FP.i2d p4), (FP.i2d p5)] (own_ML g0 g1 g2 g3) (own_is (2 : Int32) g0 g1 g2 g3).length ((own_SL g0 g1 g2 g3).getD 2 0) (0 : UInt64)) (f7 (2 : Int32) g0 g1 g2 g3 s0 s1 s2 s3 p2 p3 p4 p5)) .l) = (0 : Int32) from (dcmpV_eq (own_eq2 (own_g4 hg0) (own_g4 hg1) (own_g4 hg2) (own_g4 hg3)) (own_en2 (own_g4 hg0) (own_g4 hg1) (own_g4 hg2) (own_g4 hg3) (own_mg hs0) (own_mg hs1) (own_mg hs2) (own_mg hs3)) .l)]
  show GoB0 l Z n0 OwnW.One1 h50 9 37 306 #[.val (.int p0), .val (.int p1), .val (.int p2), .val (.int p3), .val (.int p4), .val (.int p5), .val (.int g0), .val (.int g1), .val (.int g2), .val (.int g3), .val (.double s0), .second, .val (.double s1), .second, .val (.double s2), .second, .val (.double s3), .second, .val (.ref ad1), .val (.ref ad10), .val (.ref ad19), .val (.ref ad28), .val (.ref ad33), .val (.double (f7 (1 : Int32) g0 g1 g2 g3 s0 s1 s2 s3 p2 p3 p4 p5)), .second, .val (.double (f7 (2 : Int32) g0 g1 g2 g3 s0 s1 s2 s3 p2 p3 p4 p5)), .second, .val (.double (f7 (3 : Int32) g0 g1 g2 g3 s0 s1 s2 s3 p2 p3 p4 p5)), .second] [(.int (0 : Int32))]
  refine OwnW.ifcN (pc' := 309) at_306 ((if0 _ _).trans (teq (by decide)).2) rfl ?_
  refine OwnW.aload (pc' := 311) at_309 rfl (rfl) rfl ?_
  refine OwnW.iconst (pc' := 312) (v := (3 : Int32)) at_311 rfl rfl ?_
  obtain ⟨cl55, Ar55, qk55, Sz55, Mn55, Hv55, Gf55⟩ := id Fc50_0
  refine OwnW.daload (pc' := 313) (v := (.double (own_fold [s0, s1, s2, s3] [(FP.i2d p2), (FP.i2d p3), (FP.i2d p4), (FP.i2d p5)] (own_ML g0 g1 g2 g3) (own_is (3 : Int32) g0 g1 g2 g3).length ((own_SL g0 g1 g2 g3).getD 3 0) (0 : UInt64)))) at_312 Ar55 (inb_of Sz55 ⟨by decide, by decide⟩) (Hv55.at (inb_of Sz55 ⟨by decide, by decide⟩) rfl) rfl ?_
  refine OwnW.dload (pc' := 315) at_313 rfl rfl ?_
  refine OwnW.dcmp (pc' := 316) at_315 rfl rfl ?_
  rw [show (cmpValue (FP.dcmp (own_fold [s0, s1, s2, s3] [(FP.i2d p2), (FP.i2d p3), (FP.i2d p4), (FP.i2d p5)] (own_ML g0 g1 g2 g3) (own_is (3 : Int32) g0 g1 g2 g3).length ((own_SL g0 g1 g2 g3).getD 3 0) (0 : UInt64)) (f7 (3 : Int32) g0 g1 g2 g3 s0 s1 s2 s3 p2 p3 p4 p5)) .l) = (0 : Int32) from (dcmpV_eq (own_eq3 (own_g4 hg0) (own_g4 hg1) (own_g4 hg2) (own_g4 hg3)) (own_en3 (own_g4 hg0) (own_g4 hg1) (own_g4 hg2) (own_g4 hg3) (own_mg hs0) (own_mg hs1) (own_mg hs2) (own_mg hs3)) .l)]
  show GoB0 l Z n0 OwnW.One1 h50 9 37 316 #[.val (.int p0), .val (.int p1), .val (.int p2), .val (.int p3), .val (.int p4), .val (.int p5), .val (.int g0), .val (.int g1), .val (.int g2), .val (.int g3), .val (.double s0), .second, .val (.double s1), .second, .val (.double s2), .second, .val (.double s3), .second, .val (.ref ad1), .val (.ref ad10), .val (.ref ad19), .val (.ref ad28), .val (.ref ad33), .val (.double (f7 (1 : Int32) g0 g1 g2 g3 s0 s1 s2 s3 p2 p3 p4 p5)), .second, .val (.double (f7 (2 : Int32) g0 g1 g2 g3 s0 s1 s2 s3 p2 p3 p4 p5)), .second, .val (.double (f7 (3 : Int32) g0 g1 g2 g3 s0 s1 s2 s3 p2 p3 p4 p5)), .second] [(.int (0 : Int32))]
  refine OwnW.ifcN (pc' := 319) at_316 ((if0 _ _).trans (teq (by decide)).2) rfl ?_
  refine OwnW.iconst (pc' := 320) (v := (1 : Int32)) at_319 rfl rfl ?_
  refine OwnW.goto (pc' := 324) at_320 (by decide) (by decide) ?_
  exact OwnW.retN (t := .boolean) at_324 rfl (by simp) rfl (by decide) (by decide) (rfl)
set_option maxRecDepth 65536 in
set_option maxHeartbeats 400000000 in
theorem comes_1 {Post : Tables → Env → Array Value → State → Outcome → State → Prop} (hpost : ∀ tb e args s v u, (limb_1_1.after args s (.returned v) u = true ∧ limb_1_2.after args s (.returned v) u = true ∧ True) → FrameEnd s (.returned v) u (Jvm.fieldLocs frame_1_writes args s ++ Jvm.arrayLocs frame_1_arrays args s ++ Jvm.staticLocs frame_1_statics s) 32 192 → Post tb e args s (.returned v) u) :
    ArmFor flags0 classFile x code maxLocals ret World_1 tables_1 room_1 Calls_1 rest_1 Pre_1 Post := by
  intro l hfl _ _ p e ha hc hk s m args below hf hA hF happ hP
  obtain ⟨hcalls, hrest, hpre⟩ := hP
  obtain ⟨-, -, -, hnamed, -, -, -, hat⟩ := (Spec.applies_iff hf).mp happ
  obtain ⟨hg, hn⟩ := and_e (Cond.before_iff.mp (show (Jvm.Cond.and given_1 narrow_1).before args s = true from hpre))
  obtain ⟨hcount, hr0⟩ := and_e hg
  obtain ⟨w0, w1, w2, w3, w4, w5, rfl⟩ : ∃ w0 w1 w2 w3 w4 w5 : Value, args = #[w0, w1, w2, w3, w4, w5] := by
    have hs : args.size = 6 := by simpa [Cond.value, given_1] using hcount
    obtain ⟨L⟩ := args
    match L, hs with
    | [w0, w1, w2, w3, w4, w5], _ => exact ⟨w0, w1, w2, w3, w4, w5, rfl⟩
  have hw := fun d (hd : d ∈ tables_1) => atoms_spec (ws := Jvm.Cond.code x code maxLocals ret :: tables_1) hat d (List.mem_cons_of_mem _ hd)
  have hfit : Fit s := fun {y c} hc i hi => by
    obtain ⟨ha, rfl⟩ := Array.getElem?_eq_some_iff.mp hc
    have q := List.all_eq_true.mp ((Array.all_eq_true_iff_forall_mem.mp hF) _ (Array.getElem_mem ha)) i (List.mem_range.mpr hi)
    simpa [Array.getElem?_eq_getElem hi] using q
  obtain ⟨hq0, hr1⟩ := and_e hr0
  obtain ⟨i0, ei0⟩ := is_v hq0
  obtain rfl : w0 = (.int i0) := Option.some.inj ei0
  obtain ⟨hq1, hr2⟩ := and_e hr1
  obtain ⟨i1, ei1⟩ := is_v hq1
  obtain rfl : w1 = (.int i1) := Option.some.inj ei1
  obtain ⟨hq2, hr3⟩ := and_e hr2
  obtain ⟨i2, ei2⟩ := is_v hq2
  obtain rfl : w2 = (.int i2) := Option.some.inj ei2
  obtain ⟨hq3, hr4⟩ := and_e hr3
  obtain ⟨i3, ei3⟩ := is_v hq3
  obtain rfl : w3 = (.int i3) := Option.some.inj ei3
  obtain ⟨hq4, hr5⟩ := and_e hr4
  obtain ⟨i4, ei4⟩ := is_v hq4
  obtain rfl : w4 = (.int i4) := Option.some.inj ei4
  obtain ⟨i5, ei5⟩ := is_v hr5
  obtain rfl : w5 = (.int i5) := Option.some.inj ei5
  obtain ⟨n, o, h1, h2, h3, _, L, rfl, ⟨rfl, N⟩, hq⟩ := rm0 l s _ hw i0 i1 i2 i3 i4 i5 s.heap s.heap.size (Nat.le_refl _) tables_1 p e ha hc hk s m _ below hf ((Spec.applies_iff_loose hf).mp happ).1 ⟨rfl, State.Warmed39.refl s, rfl⟩ trivial
  refine ⟨n, _, h1, h2, h3, hpost _ _ _ _ _ _ ⟨Cond.after_iff.mpr rfl, Cond.after_iff.mpr (eq_i res_at (Term.int_eval (1)) rfl), trivial⟩ ⟨hq.1, hq.2.1, (hq.2.2.sift fun y hy => Or.inr (N y hy)).mono (by decide) (by decide)⟩⟩
theorem main_1_1 : Claimed_1_1 := comes_1 fun _ _ _ _ _ _ h hF => ⟨h.1, hF⟩
theorem main_1_2 : Claimed_1_2 := comes_1 fun _ _ _ _ _ _ h hF => ⟨h.2.1, hF⟩
end Jvm.Pilot.@@N@@
namespace Jvm.Pilot.@@N@@
open Jvm Jvm.ClassFile Sem Op Lib Jvm.Free Jvm.Stand Jvm.Pilot.@@N@@.Jvm.D
/-! MADE BY PROGRAM (witnessworld.py) out of the Statement's table words and the real class files: 12 classes; the members and pool entries that the words name. The judged class is class 1, her method 1. -/
namespace start1
open Jvm.ClassFile
def u (s : String) : CpInfo := .utf8 (stringToUtf16 s)
/-- a pool by its gaps: so many unusable entries, then the entry; so many at the end -/
def gap : Nat → List CpInfo → List CpInfo
  | 0, r => r
  | n + 1, r => .unusable :: gap n r
def poolList (es : List (Nat × CpInfo)) (last : Nat) : List CpInfo := es.foldr (fun e r => gap e.1 (e.2 :: r)) (gap last [])
def pool (es : List (Nat × CpInfo)) (last : Nat) : Array CpInfo := ⟨poolList es last⟩
def fileOf (pool : Array CpInfo) (this : Nat) (attrs : Array Attribute := #[]) (ms : Array MethodInfo := #[]) (fl : Nat := 33) (sup : Nat := 0) (ifs : Array Nat := #[]) (fds : Array FieldInfo := #[]) : ClassFile where
  minorVersion := 0
  majorVersion := 65
  constantPool := pool
  accessFlags := fl
  thisClass := this
  superClass := sup
  interfaces := ifs
  fields := fds
  methods := ms
  attributes := attrs
def plain (name : String) (sup : Option ClassId) : Class where
  name := name
  kind := .ordinary
  loader := none
  accessFlags := 33
  super := sup
  interfaces := #[]
  cf := none
  fields := #[]
  methods := #[]
  instanceTypes := #[]
  staticTypes := #[]
  resolved := #[]
  callSites := []
  init := .initialized
  statics := none
  mirror := none

def pool0 : Array CpInfo := pool [(5, u "<init>"), (0, u "()V"), (1, .class_ 10), (1, u "java/lang/Object")] 113

def k0c0 : Code := { maxStack := 0, maxLocals := 1, code := object_method_1_code, exceptionTable := #[], attributes := #[] }
def k0m0 : Method := { name := "<init>", desc := "()V", sig := { parameters := [], returnType := none }, accessFlags := 1, code := some k0c0 }
/-- java/lang/Object -/
def k0 : Class := { plain "java/lang/Object" none with
  accessFlags := 33
  interfaces := #[]
  cf := some (fileOf pool0 8 #[] #[{ accessFlags := 1, nameIndex := 5, descriptorIndex := 6, attributes := #[] }] 33 0 #[] #[])
  fields := #[]
  methods := #[k0m0]
  instanceTypes := #[]
  staticTypes := #[]
  resolved := Array.replicate 124 none
  statics := none }

def pool1 : Array CpInfo := pool [(2, .class_ 4), (1, u "java/lang/Object"), (0, u "<init>"), (0, u "()V"), (0, .methodref 8 9), (0, .class_ 10), (0, .nameAndType 11 12), (0, u "com/example/sieve_for_links/sieveforlinks/VirtualLinksSpreadPinLaw"), (0, u "share"), (0, u "(II)D"), (0, .class_ 14), (0, u "com/example/sieve_for_links/sieveforlinks/VirtualLinks"), (0, .methodref 13 16), (0, .nameAndType 5 17), (0, u "([I[DI)V"), (0, .double 4619567317775286272), (1, .methodref 13 21), (0, .nameAndType 22 23), (0, u "spread"), (0, u "([D[D)V"), (0, .methodref 8 25), (0, .nameAndType 26 27), (0, u "expect"), (0, u "(IIIIIDDDDIIII)D"), (0, .methodref 29 30), (0, .class_ 31), (0, .nameAndType 32 33), (0, u "java/lang/Math"), (0, u "min"), (0, u "(II)I"), (0, .double 4616189618054758400), (1, .methodref 8 37), (0, .nameAndType 38 39), (0, u "part"), (0, u "(IIDID)D"), (2, u "law"), (0, u "(IIIIII)Z")] 7

def k1m0 : Method := { name := "<init>", desc := "()V", sig := { parameters := [], returnType := none }, accessFlags := 1, code := none }
def k1c1 : Code := { maxStack := 17, maxLocals := 29, code := code, exceptionTable := #[], attributes := #[] }
def k1m1 : Method := { name := "law", desc := "(IIIIII)Z", sig := { parameters := [.int, .int, .int, .int, .int, .int], returnType := some .boolean }, accessFlags := 9, code := some k1c1 }
def k1c2 : Code := { maxStack := 4, maxLocals := 2, code := method_3_code, exceptionTable := #[], attributes := #[] }
def k1m2 : Method := { name := "share", desc := "(II)D", sig := { parameters := [.int, .int], returnType := some .double }, accessFlags := 10, code := some k1c2 }
def k1c3 : Code := { maxStack := 6, maxLocals := 7, code := method_4_code, exceptionTable := #[], attributes := #[] }
def k1m3 : Method := { name := "part", desc := "(IIDID)D", sig := { parameters := [.int, .int, .double, .int, .double], returnType := some .double }, accessFlags := 10, code := some k1c3 }
def k1c4 : Code := { maxStack := 7, maxLocals := 19, code := method_5_code, exceptionTable := #[], attributes := #[] }
def k1m4 : Method := { name := "expect", desc := "(IIIIIDDDDIIII)D", sig := { parameters := [.int, .int, .int, .int, .int, .double, .double, .double, .double, .int, .int, .int, .int], returnType := some .double }, accessFlags := 10, code := some k1c4 }
/-- com/example/sieve_for_links/sieveforlinks/VirtualLinksSpreadPinLaw -/
def k1 : Class := { plain "com/example/sieve_for_links/sieveforlinks/VirtualLinksSpreadPinLaw" (some 0) with
  accessFlags := 49
  interfaces := #[]
  cf := some (fileOf pool1 8 #[] #[{ accessFlags := 1, nameIndex := 5, descriptorIndex := 6, attributes := #[] }, { accessFlags := 9, nameIndex := 42, descriptorIndex := 43, attributes := #[] }, { accessFlags := 10, nameIndex := 11, descriptorIndex := 12, attributes := #[] }, { accessFlags := 10, nameIndex := 38, descriptorIndex := 39, attributes := #[] }, { accessFlags := 10, nameIndex := 26, descriptorIndex := 27, attributes := #[] }] 49 2 #[] #[])
  fields := #[]
  methods := #[k1m0, k1m1, k1m2, k1m3, k1m4]
  instanceTypes := #[]
  staticTypes := #[]
  resolved := Array.replicate 51 none
  statics := none }

def pool2 : Array CpInfo := pool [(1, .methodref 2 3), (0, .class_ 4), (0, .nameAndType 5 6), (0, u "java/lang/Object"), (0, u "<init>"), (0, u "()V"), (13, .methodref 21 22), (0, .class_ 23), (0, .nameAndType 24 25), (0, u "java/util/Arrays"), (0, u "copyOf"), (0, u "([II)[I"), (0, .fieldref 27 28), (0, .class_ 29), (0, .nameAndType 30 31), (0, u "com/example/sieve_for_links/sieveforlinks/VirtualLinks"), (0, u "groups"), (0, u "[I"), (0, .fieldref 27 33), (0, .nameAndType 34 35), (0, u "shares"), (0, u "[D"), (0, .fieldref 27 37), (0, .nameAndType 38 31), (0, u "members"), (0, .fieldref 27 40), (0, .nameAndType 41 31), (0, u "memberStarts"), (2, u "([I[DI)V"), (2, u "NONE"), (0, u "Lcom/example/sieve_for_links/sieveforlinks/VirtualLinks;"), (14, u "spread"), (0, u "([D[D)V")] 22

def k2c0 : Code := { maxStack := 6, maxLocals := 9, code := prog_33_method_1_code, exceptionTable := #[], attributes := #[] }
def k2m0 : Method := { name := "<init>", desc := "([I[DI)V", sig := { parameters := [(.array .int), (.array .double), .int], returnType := none }, accessFlags := 0, code := some k2c0 }
def k2c1 : Code := { maxStack := 7, maxLocals := 7, code := prog_33_method_7_code, exceptionTable := #[], attributes := #[] }
def k2m1 : Method := { name := "spread", desc := "([D[D)V", sig := { parameters := [(.array .double), (.array .double)], returnType := none }, accessFlags := 0, code := some k2c1 }
/-- com/example/sieve_for_links/sieveforlinks/VirtualLinks -/
def k2 : Class := { plain "com/example/sieve_for_links/sieveforlinks/VirtualLinks" (some 0) with
  accessFlags := 48
  interfaces := #[]
  cf := some (fileOf pool2 27 #[] #[{ accessFlags := 0, nameIndex := 5, descriptorIndex := 44, attributes := #[] }, { accessFlags := 0, nameIndex := 63, descriptorIndex := 64, attributes := #[] }] 48 2 #[] #[{ accessFlags := 24, nameIndex := 47, descriptorIndex := 48, attributes := #[] }, { accessFlags := 18, nameIndex := 30, descriptorIndex := 31, attributes := #[] }, { accessFlags := 18, nameIndex := 34, descriptorIndex := 35, attributes := #[] }, { accessFlags := 18, nameIndex := 38, descriptorIndex := 31, attributes := #[] }, { accessFlags := 18, nameIndex := 41, descriptorIndex := 31, attributes := #[] }])
  fields := #[{ name := "NONE", type := (.object "com/example/sieve_for_links/sieveforlinks/VirtualLinks"), accessFlags := 24, slot := 0, constantValue := 0 }, { name := "groups", type := (.array .int), accessFlags := 18, slot := 0, constantValue := 0 }, { name := "shares", type := (.array .double), accessFlags := 18, slot := 1, constantValue := 0 }, { name := "members", type := (.array .int), accessFlags := 18, slot := 2, constantValue := 0 }, { name := "memberStarts", type := (.array .int), accessFlags := 18, slot := 3, constantValue := 0 }]
  methods := #[k2m0, k2m1]
  instanceTypes := #[(.array .int), (.array .double), (.array .int), (.array .int)]
  staticTypes := #[(.object "com/example/sieve_for_links/sieveforlinks/VirtualLinks")]
  resolved := Array.replicate 87 none
  statics := none }

def pool3 : Array CpInfo := pool [(2, .class_ 4), (1, u "java/lang/Object"), (0, u "<init>"), (0, u "()V"), (7, .class_ 16), (1, u "java/util/Arrays"), (57, .class_ 76), (1, u "java/util/Arrays$NaturalOrder"), (36, .class_ 115), (1, u "java/util/Arrays$LegacyMergeSort"), (1, u "Z"), (32, .methodref 151 152), (0, .class_ 153), (0, .nameAndType 154 155), (0, u "java/lang/System"), (0, u "arraycopy"), (0, u "(Ljava/lang/Object;ILjava/lang/Object;II)V"), (146, u "copyOf"), (1, .methodref 305 306), (0, .class_ 307), (0, .nameAndType 308 309), (0, u "java/lang/Math"), (0, u "min"), (0, u "(II)I"), (65, .class_ 376), (0, u "java/util/Arrays$ArrayList"), (68, u "$assertionsDisabled"), (269, u "MIN_ARRAY_SORT_GRAN"), (0, u "I"), (2, u "INSERTIONSORT_THRESHOLD"), (151, u "([II)[I"), (103, .class_ 976), (0, u "java/util/Arrays$ArrayItr")] 52

def k3m0 : Method := { name := "<init>", desc := "()V", sig := { parameters := [], returnType := none }, accessFlags := 2, code := none }
def k3c1 : Code := { maxStack := 6, maxLocals := 3, code := jdk_65_method_123_code, exceptionTable := #[], attributes := #[] }
def k3m1 : Method := { name := "copyOf", desc := "([II)[I", sig := { parameters := [(.array .int), .int], returnType := some (.array .int) }, accessFlags := 9, code := some k3c1 }
/-- java/util/Arrays -/
def k3 : Class := { plain "java/util/Arrays" (some 0) with
  accessFlags := 49
  interfaces := #[]
  cf := some (fileOf pool3 14 #[.nestMembers #[975, 375, 113, 74]] #[{ accessFlags := 2, nameIndex := 5, descriptorIndex := 6, attributes := #[] }, { accessFlags := 9, nameIndex := 302, descriptorIndex := 871, attributes := #[] }] 49 2 #[] #[{ accessFlags := 26, nameIndex := 715, descriptorIndex := 716, attributes := #[] }, { accessFlags := 26, nameIndex := 719, descriptorIndex := 716, attributes := #[] }, { accessFlags := 4120, nameIndex := 445, descriptorIndex := 117, attributes := #[] }])
  fields := #[{ name := "MIN_ARRAY_SORT_GRAN", type := .int, accessFlags := 26, slot := 0, constantValue := 0 }, { name := "INSERTIONSORT_THRESHOLD", type := .int, accessFlags := 26, slot := 1, constantValue := 0 }, { name := "$assertionsDisabled", type := .boolean, accessFlags := 4120, slot := 2, constantValue := 0 }]
  methods := #[k3m0, k3m1]
  instanceTypes := #[]
  staticTypes := #[.int, .int, .boolean]
  resolved := Array.replicate 1029 none
  statics := none }

def pool4 : Array CpInfo := pool [(1, .class_ 2), (0, u "java/lang/Math"), (1, .class_ 6), (1, u "java/lang/Object"), (0, u "<init>"), (0, u "()V"), (89, .class_ 100), (1, u "java/lang/Math$RandomNumberGeneratorHolder"), (71, u "negativeZeroFloatBits"), (0, u "J"), (2, u "negativeZeroDoubleBits"), (24, u "min"), (43, u "$assertionsDisabled"), (0, u "Z"), (88, u "(II)I"), (2, u "twoToTheDoubleScaleDown"), (0, u "D"), (4, u "twoToTheDoubleScaleUp"), (9, u "E"), (3, u "PI"), (2, u "TAU"), (2, u "DEGREES_TO_RADIANS"), (0, u "RADIANS_TO_DEGREES")] 94

def k4m0 : Method := { name := "<init>", desc := "()V", sig := { parameters := [], returnType := none }, accessFlags := 2, code := none }
def k4c1 : Code := { maxStack := 2, maxLocals := 2, code := jdk_29_method_69_code, exceptionTable := #[], attributes := #[] }
def k4m1 : Method := { name := "min", desc := "(II)I", sig := { parameters := [.int, .int], returnType := some .int }, accessFlags := 9, code := some k4c1 }
/-- java/lang/Math -/
def k4 : Class := { plain "java/lang/Math" (some 0) with
  accessFlags := 49
  interfaces := #[]
  cf := some (fileOf pool4 1 #[.nestMembers #[98]] #[{ accessFlags := 2, nameIndex := 7, descriptorIndex := 8, attributes := #[] }, { accessFlags := 9, nameIndex := 201, descriptorIndex := 335, attributes := #[] }] 49 4 #[] #[{ accessFlags := 25, nameIndex := 354, descriptorIndex := 339, attributes := #[] }, { accessFlags := 25, nameIndex := 358, descriptorIndex := 339, attributes := #[] }, { accessFlags := 25, nameIndex := 361, descriptorIndex := 339, attributes := #[] }, { accessFlags := 26, nameIndex := 364, descriptorIndex := 339, attributes := #[] }, { accessFlags := 26, nameIndex := 365, descriptorIndex := 339, attributes := #[] }, { accessFlags := 26, nameIndex := 172, descriptorIndex := 173, attributes := #[] }, { accessFlags := 26, nameIndex := 176, descriptorIndex := 173, attributes := #[] }, { accessFlags := 8, nameIndex := 344, descriptorIndex := 339, attributes := #[] }, { accessFlags := 8, nameIndex := 338, descriptorIndex := 339, attributes := #[] }, { accessFlags := 4120, nameIndex := 245, descriptorIndex := 246, attributes := #[] }])
  fields := #[{ name := "E", type := .double, accessFlags := 25, slot := 0, constantValue := 0 }, { name := "PI", type := .double, accessFlags := 25, slot := 1, constantValue := 0 }, { name := "TAU", type := .double, accessFlags := 25, slot := 2, constantValue := 0 }, { name := "DEGREES_TO_RADIANS", type := .double, accessFlags := 26, slot := 3, constantValue := 0 }, { name := "RADIANS_TO_DEGREES", type := .double, accessFlags := 26, slot := 4, constantValue := 0 }, { name := "negativeZeroFloatBits", type := .long, accessFlags := 26, slot := 5, constantValue := 0 }, { name := "negativeZeroDoubleBits", type := .long, accessFlags := 26, slot := 6, constantValue := 0 }, { name := "twoToTheDoubleScaleUp", type := .double, accessFlags := 8, slot := 7, constantValue := 0 }, { name := "twoToTheDoubleScaleDown", type := .double, accessFlags := 8, slot := 8, constantValue := 0 }, { name := "$assertionsDisabled", type := .boolean, accessFlags := 4120, slot := 9, constantValue := 0 }]
  methods := #[k4m0, k4m1]
  instanceTypes := #[]
  staticTypes := #[.double, .double, .double, .double, .double, .long, .long, .double, .double, .boolean]
  resolved := Array.replicate 460 none
  statics := none }

def pool5 : Array CpInfo := pool [(2, .class_ 4), (1, u "java/lang/Object"), (0, u "<init>"), (0, u "()V"), (1, .class_ 10), (1, u "java/lang/System"), (0, u "allowSecurityManager"), (0, u "I"), (16, u "cons"), (0, u "Ljava/io/Console;"), (77, .class_ 110), (1, u "java/lang/System$CallersHolder"), (43, u "initialErrStream"), (0, u "Ljava/io/PrintStream;"), (19, u "security"), (0, u "Ljava/lang/SecurityManager;"), (31, .class_ 209), (0, u "java/lang/System$1"), (7, u "props"), (0, u "Ljava/util/Properties;"), (2, u "lineSeparator"), (0, u "Ljava/lang/String;"), (96, .class_ 321), (1, u "java/lang/System$LoggerFinder"), (5, .class_ 328), (0, u "java/lang/System$Logger"), (67, u "err"), (2, u "out"), (91, u "notSupportedJnuEncoding"), (15, u "in"), (17, u "initialIn"), (0, u "Ljava/io/InputStream;"), (35, u "bootLayer"), (0, u "Ljava/lang/ModuleLayer;"), (99, .class_ 664), (0, u "java/lang/System$2"), (9, u "NEVER"), (2, u "MAYBE"), (49, u "arraycopy"), (0, u "(Ljava/lang/Object;ILjava/lang/Object;II)V"), (72, .class_ 802), (0, u "java/lang/System$Logger$Level")] 31

def k5m0 : Method := { name := "<init>", desc := "()V", sig := { parameters := [], returnType := none }, accessFlags := 2, code := none }
def k5m1 : Method := { name := "arraycopy", desc := "(Ljava/lang/Object;ILjava/lang/Object;II)V", sig := { parameters := [(.object "java/lang/Object"), .int, (.object "java/lang/Object"), .int, .int], returnType := none }, accessFlags := 265, code := none }
/-- java/lang/System -/
def k5 : Class := { plain "java/lang/System" (some 0) with
  accessFlags := 49
  interfaces := #[]
  cf := some (fileOf pool5 8 #[.nestMembers #[319, 327, 801, 108, 663, 208]] #[{ accessFlags := 2, nameIndex := 5, descriptorIndex := 6, attributes := #[] }, { accessFlags := 265, nameIndex := 727, descriptorIndex := 728, attributes := #[] }] 49 2 #[] #[{ accessFlags := 25, nameIndex := 507, descriptorIndex := 526, attributes := #[] }, { accessFlags := 25, nameIndex := 399, descriptorIndex := 155, attributes := #[] }, { accessFlags := 25, nameIndex := 396, descriptorIndex := 155, attributes := #[] }, { accessFlags := 10, nameIndex := 525, descriptorIndex := 526, attributes := #[] }, { accessFlags := 26, nameIndex := 674, descriptorIndex := 12, attributes := #[] }, { accessFlags := 26, nameIndex := 677, descriptorIndex := 12, attributes := #[] }, { accessFlags := 10, nameIndex := 11, descriptorIndex := 12, attributes := #[] }, { accessFlags := 74, nameIndex := 175, descriptorIndex := 176, attributes := #[] }, { accessFlags := 10, nameIndex := 491, descriptorIndex := 222, attributes := #[] }, { accessFlags := 74, nameIndex := 29, descriptorIndex := 30, attributes := #[] }, { accessFlags := 74, nameIndex := 154, descriptorIndex := 155, attributes := #[] }, { accessFlags := 10, nameIndex := 217, descriptorIndex := 218, attributes := #[] }, { accessFlags := 10, nameIndex := 221, descriptorIndex := 222, attributes := #[] }, { accessFlags := 8, nameIndex := 562, descriptorIndex := 563, attributes := #[] }])
  fields := #[{ name := "in", type := (.object "java/io/InputStream"), accessFlags := 25, slot := 0, constantValue := 0 }, { name := "out", type := (.object "java/io/PrintStream"), accessFlags := 25, slot := 1, constantValue := 0 }, { name := "err", type := (.object "java/io/PrintStream"), accessFlags := 25, slot := 2, constantValue := 0 }, { name := "initialIn", type := (.object "java/io/InputStream"), accessFlags := 10, slot := 3, constantValue := 0 }, { name := "NEVER", type := .int, accessFlags := 26, slot := 4, constantValue := 0 }, { name := "MAYBE", type := .int, accessFlags := 26, slot := 5, constantValue := 0 }, { name := "allowSecurityManager", type := .int, accessFlags := 10, slot := 6, constantValue := 0 }, { name := "security", type := (.object "java/lang/SecurityManager"), accessFlags := 74, slot := 7, constantValue := 0 }, { name := "notSupportedJnuEncoding", type := (.object "java/lang/String"), accessFlags := 10, slot := 8, constantValue := 0 }, { name := "cons", type := (.object "java/io/Console"), accessFlags := 74, slot := 9, constantValue := 0 }, { name := "initialErrStream", type := (.object "java/io/PrintStream"), accessFlags := 74, slot := 10, constantValue := 0 }, { name := "props", type := (.object "java/util/Properties"), accessFlags := 10, slot := 11, constantValue := 0 }, { name := "lineSeparator", type := (.object "java/lang/String"), accessFlags := 10, slot := 12, constantValue := 0 }, { name := "bootLayer", type := (.object "java/lang/ModuleLayer"), accessFlags := 8, slot := 13, constantValue := 0 }]
  methods := #[k5m0, k5m1]
  instanceTypes := #[]
  staticTypes := #[(.object "java/io/InputStream"), (.object "java/io/PrintStream"), (.object "java/io/PrintStream"), (.object "java/io/InputStream"), .int, .int, .int, (.object "java/lang/SecurityManager"), (.object "java/lang/String"), (.object "java/io/Console"), (.object "java/io/PrintStream"), (.object "java/util/Properties"), (.object "java/lang/String"), (.object "java/lang/ModuleLayer")]
  resolved := Array.replicate 834 none
  statics := none }

def pool6 : Array CpInfo := pool [(1, u "java/lang/Cloneable"), (0, .class_ 1), (0, u "java/lang/Object"), (0, .class_ 3)] 3

/-- java/lang/Cloneable -/
def k6 : Class := { plain "java/lang/Cloneable" (some 0) with
  accessFlags := 1537
  interfaces := #[]
  cf := some (fileOf pool6 2 #[] #[] 1537 4 #[] #[])
  fields := #[]
  methods := #[]
  instanceTypes := #[]
  staticTypes := #[]
  resolved := Array.replicate 8 none
  statics := none }

def pool7 : Array CpInfo := pool [(1, u "java/io/Serializable"), (0, .class_ 1), (0, u "java/lang/Object"), (0, .class_ 3)] 3

/-- java/io/Serializable -/
def k7 : Class := { plain "java/io/Serializable" (some 0) with
  accessFlags := 1537
  interfaces := #[]
  cf := some (fileOf pool7 2 #[] #[] 1537 4 #[] #[])
  fields := #[]
  methods := #[]
  instanceTypes := #[]
  staticTypes := #[]
  resolved := Array.replicate 8 none
  statics := none }

/-- the primitive byte -/
def k8 : Class := { plain "byte" none with kind := .primitive 'B', accessFlags := 0x411 }
/-- [B -/
def k9 : Class := { plain "[B" (some 0) with kind := .array 8 .byte, interfaces := #[6, 7], accessFlags := 1041 }

/-- the primitive int -/
def k10 : Class := { plain "int" none with kind := .primitive 'I', accessFlags := 0x411 }
/-- [I -/
def k11 : Class := { plain "[I" (some 0) with kind := .array 10 .int, interfaces := #[6, 7], accessFlags := 1041 }

/-- the primitive double -/
def k12 : Class := { plain "double" none with kind := .primitive 'D', accessFlags := 0x411 }
/-- [D -/
def k13 : Class := { plain "[D" (some 0) with kind := .array 12 .double, interfaces := #[6, 7], accessFlags := 1041 }
def heap : Heap := #[]
def classes : Array Class := #[k0, k1, k2, k3, k4, k5, k6, k7, k8, k9, k10, k11, k12, k13]
def interned : List (Array UInt16 × Addr) := []
def slotsUsed : Nat := 0
def theMethod : MethodId := ⟨1, 1⟩
def args0 : Array Value := #[.int 5, .int 5, .int 5, .int 5, .int 5, .int 5]
def aboutOver (below : List Frame) : State where
  vm := { classes := classes, interned := interned.toArray }
  heap := heap
  slotsUsed := slotsUsed
  threads := #[{ frames := .invoking theMethod args0 :: below }]
def below0 : List Frame := [.native { method := ⟨0, 0⟩, args := #[] }]
def about1 : State := aboutOver below0
def p0 : Program := .bare "" "" ""
def e0 : Env := launch0.env 0 0 0
theorem w_frames : about1.frames = Frame.invoking theMethod args0 :: below0 := rfl
set_option maxRecDepth 65536 in
theorem w_args : argsFit about1.vm theMethod args0 = true := by decide +kernel
set_option maxRecDepth 65536 in
theorem w_heap : heapFits about1 = true := by decide +kernel
set_option maxRecDepth 65536 in
theorem w_runnable : about1.curStatus? = some .runnable := by decide +kernel
set_option maxRecDepth 65536 in
theorem w_alone : about1.alone = true := by decide +kernel
set_option maxRecDepth 65536 in
theorem w_named : about1.methodNamed? x = some theMethod := by decide +kernel
set_option maxRecDepth 65536 in
theorem w_hears : about1.hears theMethod below0 = true := by decide +kernel
set_option maxRecDepth 65536 in
theorem w_ripe : about1.ripe theMethod args0 below0 = true := by decide +kernel
theorem w_running : about1.status = .running := rfl
set_option maxRecDepth 65536 in
theorem w_room : about1.hasRoom e0.platform room_1 = true :=
  launch0.hasRoom_least _ room_1 (by decide +kernel) (by decide +kernel) (by decide +kernel) (by decide +kernel) (by decide +kernel) (by decide +kernel)
theorem allAtoms_all (ts : List Jvm.Cond) (a : Array Jvm.Value) (st : Jvm.State) : (allAtoms ts).before a st = ts.all (fun c => c.before a st) := by
  induction ts with
  | nil => rfl
  | cons c t ih =>
    show (Jvm.Cond.and c (allAtoms t)).before a st = _
    rw [Jvm.Cond.before_and, ih, List.all_cons]
def words1 : List Jvm.Cond := Jvm.Cond.code x code maxLocals ret :: tables_1
/-- a 'code' word, met by the world's own term for the bytes: nothing is compared byte by byte -/
theorem code_word {y : MethodName} {bytes : ByteArray} {mx : Nat} {rt : Option FieldType} {a : Array Value} {s : State} {m : MethodId} {meth : Method} {c : Code} (h1 : s.methodNamed? y = some m) (h2 : s.vm.method? m = some meth) (h3 : meth.code = some c) (h4 : c.code = bytes)
    (h5 : (c.maxLocals == mx && c.exceptionTable.isEmpty && decide (c.maxStack ≤ mostOperands) && decide (meth.sig.returnType = rt) && !meth.locks && decide (parseMethodDescriptor y.desc = some meth.sig)) = true) : (Jvm.Cond.code y bytes mx rt).before a s = true := by
  simp only [Bool.and_eq_true, beq_iff_eq, Bool.not_eq_true', decide_eq_true_eq] at h5
  obtain ⟨⟨⟨⟨⟨g1, g2⟩, g3⟩, g4⟩, g5⟩, g6⟩ := h5
  simp [Cond.before, Cond.holds, Cond.value, h1, h2, h3, h4, g1, g2, g3, g4, g5, g6]
def isCode : Jvm.Cond → Bool
  | .code _ _ _ _ => true
  | _ => false
theorem all_split {L : List Jvm.Cond} {P : Jvm.Cond → Bool} (h1 : L.all (fun c => isCode c || P c) = true) (h2 : ∀ c ∈ L.filter isCode, P c = true) : L.all P = true := by
  refine List.all_eq_true.mpr fun c hc => ?_
  have h := List.all_eq_true.mp h1 c hc
  rcases Bool.eq_false_or_eq_true (isCode c) with hi | hi
  · exact h2 c (List.mem_filter.mpr ⟨hc, hi⟩)
  · simpa [hi] using h
set_option maxRecDepth 65536 in
theorem w_c0 : (Jvm.Cond.code x code maxLocals ret).before args0 about1 = true := code_word (m := ⟨1, 1⟩) (meth := k1m1) (c := k1c1) (by decide +kernel) rfl rfl rfl (by decide +kernel)
set_option maxRecDepth 65536 in
theorem w_c1 : (Jvm.Cond.code ({ cls := "com/example/sieve_for_links/sieveforlinks/VirtualLinksSpreadPinLaw", name := "share", desc := "(II)D" } : Jvm.MethodName) method_3_code (2 : Nat) (Option.some Jvm.ClassFile.FieldType.double)).before args0 about1 = true := code_word (m := ⟨1, 2⟩) (meth := k1m2) (c := k1c2) (by decide +kernel) rfl rfl rfl (by decide +kernel)
set_option maxRecDepth 65536 in
theorem w_c2 : (Jvm.Cond.code ({ cls := "com/example/sieve_for_links/sieveforlinks/VirtualLinks", name := "<init>", desc := "([I[DI)V" } : Jvm.MethodName) prog_33_method_1_code (9 : Nat) (Option.none : Option Jvm.ClassFile.FieldType)).before args0 about1 = true := code_word (m := ⟨2, 0⟩) (meth := k2m0) (c := k2c0) (by decide +kernel) rfl rfl rfl (by decide +kernel)
set_option maxRecDepth 65536 in
theorem w_c3 : (Jvm.Cond.code ({ cls := "java/lang/Object", name := "<init>", desc := "()V" } : Jvm.MethodName) object_method_1_code (1 : Nat) (Option.none : Option Jvm.ClassFile.FieldType)).before args0 about1 = true := code_word (m := ⟨0, 0⟩) (meth := k0m0) (c := k0c0) (by decide +kernel) rfl rfl rfl (by decide +kernel)
set_option maxRecDepth 65536 in
theorem w_c4 : (Jvm.Cond.code ({ cls := "java/util/Arrays", name := "copyOf", desc := "([II)[I" } : Jvm.MethodName) jdk_65_method_123_code (3 : Nat) (Option.some (Jvm.ClassFile.FieldType.array Jvm.ClassFile.FieldType.int))).before args0 about1 = true := code_word (m := ⟨3, 1⟩) (meth := k3m1) (c := k3c1) (by decide +kernel) rfl rfl rfl (by decide +kernel)
set_option maxRecDepth 65536 in
theorem w_c5 : (Jvm.Cond.code ({ cls := "java/lang/Math", name := "min", desc := "(II)I" } : Jvm.MethodName) jdk_29_method_69_code (2 : Nat) (Option.some Jvm.ClassFile.FieldType.int)).before args0 about1 = true := code_word (m := ⟨4, 1⟩) (meth := k4m1) (c := k4c1) (by decide +kernel) rfl rfl rfl (by decide +kernel)
set_option maxRecDepth 65536 in
theorem w_c6 : (Jvm.Cond.code ({ cls := "com/example/sieve_for_links/sieveforlinks/VirtualLinks", name := "spread", desc := "([D[D)V" } : Jvm.MethodName) prog_33_method_7_code (7 : Nat) (Option.none : Option Jvm.ClassFile.FieldType)).before args0 about1 = true := code_word (m := ⟨2, 1⟩) (meth := k2m1) (c := k2c1) (by decide +kernel) rfl rfl rfl (by decide +kernel)
set_option maxRecDepth 65536 in
theorem w_c7 : (Jvm.Cond.code ({ cls := "com/example/sieve_for_links/sieveforlinks/VirtualLinksSpreadPinLaw", name := "expect", desc := "(IIIIIDDDDIIII)D" } : Jvm.MethodName) method_5_code (19 : Nat) (Option.some Jvm.ClassFile.FieldType.double)).before args0 about1 = true := code_word (m := ⟨1, 4⟩) (meth := k1m4) (c := k1c4) (by decide +kernel) rfl rfl rfl (by decide +kernel)
set_option maxRecDepth 65536 in
theorem w_c8 : (Jvm.Cond.code ({ cls := "com/example/sieve_for_links/sieveforlinks/VirtualLinksSpreadPinLaw", name := "part", desc := "(IIDID)D" } : Jvm.MethodName) method_4_code (7 : Nat) (Option.some Jvm.ClassFile.FieldType.double)).before args0 about1 = true := code_word (m := ⟨1, 3⟩) (meth := k1m3) (c := k1c3) (by decide +kernel) rfl rfl rfl (by decide +kernel)
def codes1 : List Jvm.Cond := [Jvm.Cond.code x code maxLocals ret, Jvm.Cond.code ({ cls := "com/example/sieve_for_links/sieveforlinks/VirtualLinksSpreadPinLaw", name := "share", desc := "(II)D" } : Jvm.MethodName) method_3_code (2 : Nat) (Option.some Jvm.ClassFile.FieldType.double), Jvm.Cond.code ({ cls := "com/example/sieve_for_links/sieveforlinks/VirtualLinks", name := "<init>", desc := "([I[DI)V" } : Jvm.MethodName) prog_33_method_1_code (9 : Nat) (Option.none : Option Jvm.ClassFile.FieldType), Jvm.Cond.code ({ cls := "java/lang/Object", name := "<init>", desc := "()V" } : Jvm.MethodName) object_method_1_code (1 : Nat) (Option.none : Option Jvm.ClassFile.FieldType), Jvm.Cond.code ({ cls := "java/util/Arrays", name := "copyOf", desc := "([II)[I" } : Jvm.MethodName) jdk_65_method_123_code (3 : Nat) (Option.some (Jvm.ClassFile.FieldType.array Jvm.ClassFile.FieldType.int)), Jvm.Cond.code ({ cls := "java/lang/Math", name := "min", desc := "(II)I" } : Jvm.MethodName) jdk_29_method_69_code (2 : Nat) (Option.some Jvm.ClassFile.FieldType.int), Jvm.Cond.code ({ cls := "com/example/sieve_for_links/sieveforlinks/VirtualLinks", name := "spread", desc := "([D[D)V" } : Jvm.MethodName) prog_33_method_7_code (7 : Nat) (Option.none : Option Jvm.ClassFile.FieldType), Jvm.Cond.code ({ cls := "com/example/sieve_for_links/sieveforlinks/VirtualLinksSpreadPinLaw", name := "expect", desc := "(IIIIIDDDDIIII)D" } : Jvm.MethodName) method_5_code (19 : Nat) (Option.some Jvm.ClassFile.FieldType.double), Jvm.Cond.code ({ cls := "com/example/sieve_for_links/sieveforlinks/VirtualLinksSpreadPinLaw", name := "part", desc := "(IIDID)D" } : Jvm.MethodName) method_4_code (7 : Nat) (Option.some Jvm.ClassFile.FieldType.double)]
set_option maxRecDepth 65536 in
theorem codes_eq : words1.filter isCode = codes1 := rfl
theorem w_codes : ∀ c ∈ words1.filter isCode, c.before args0 about1 = true := by
  rw [codes_eq]
  intro c hc
  simp only [codes1, List.mem_cons, List.not_mem_nil, or_false] at hc
  rcases hc with rfl | rfl | rfl | rfl | rfl | rfl | rfl | rfl | rfl
  · exact w_c0
  · exact w_c1
  · exact w_c2
  · exact w_c3
  · exact w_c4
  · exact w_c5
  · exact w_c6
  · exact w_c7
  · exact w_c8
set_option maxRecDepth 65536 in
theorem w_t1 : (words1.take 24).all (fun c => isCode c || c.before args0 about1) = true := by decide +kernel
set_option maxRecDepth 65536 in
theorem w_t2 : ((words1.drop 24).take 24).all (fun c => isCode c || c.before args0 about1) = true := by decide +kernel
set_option maxRecDepth 65536 in
theorem w_t3 : ((words1.drop 24).drop 24).all (fun c => isCode c || c.before args0 about1) = true := by decide +kernel
theorem w_tables : (allAtoms (Jvm.Cond.code x code maxLocals ret :: tables_1)).before args0 about1 = true := by
  rw [allAtoms_all]
  show words1.all (fun c => c.before args0 about1) = true
  refine all_split ?_ w_codes
  rw [← List.take_append_drop 24 words1, List.all_append, w_t1, ← List.take_append_drop 24 (words1.drop 24), List.all_append, w_t2, w_t3]
  rfl
set_option maxRecDepth 65536 in
theorem w_case : (Jvm.Cond.and given_1 narrow_1).before args0 about1 = true := by decide +kernel
theorem w_applies : (headSpec (Jvm.Cond.code x code maxLocals ret :: tables_1) room_1).applies x e0.platform about1 = true :=
  (Spec.applies_iff w_frames).mpr ⟨w_running, w_runnable, w_alone, w_named, w_hears, w_ripe, w_room, w_tables⟩
theorem atStart : AtStart classFile x code maxLocals ret World_1 tables_1 room_1 Calls_1 rest_1 Pre_1 launch0 p0 e0 about1 theMethod args0 below0 :=
  ⟨lists_1, trivial, launch0.admits_env _ _ _, launch0.least_env, fairChoices_fair.cas, fairChoices_fair.clock, w_frames, w_args, w_heap, w_applies, trivial, trivial, w_case⟩
end start1
theorem witness_1 : WitnessClaimed_1 := ⟨start1.p0, start1.e0, start1.about1, start1.theMethod, start1.args0, start1.below0, start1.atStart⟩
end Jvm.Pilot.@@N@@
