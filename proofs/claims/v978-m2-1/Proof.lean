import JvmDerived
import JvmDerived.Pilot.@@N@@Statement
import JvmDerived.Pilot.@@N@@Code
set_option linter.unusedVariables false
set_option linter.unusedSimpArgs false
namespace Jvm.OwnW
open Sem ClassFile Op Lib Jvm.Stand Jvm.Free Jvm.LawKit Jvm.RoadKit
/-- what a walk knows of its method and of the run -/
def Cx (p : Program) (s : State) (m : MethodId) (meth : Method) (c : Code) (Z : State) (y : MethodName) (bs : ByteArray) (ml : Nat) (ret : Option FieldType) : Prop :=
  p.tables.exec = Jvm.exec ∧ c.code = bs ∧ c.maxLocals = ml ∧ s.vm.findClass y.cls = some m.cls ∧ meth.name = y.name ∧ meth.sig.returnType = ret ∧ meth.locks = false ∧ Z.Warmed39 s.vm
/-- from the state u the body comes to its end, returns v and leaves the heap as Q says; it wrote cells from n0 on alone -/
def Runs (p : Program) (e : Env) (below : List Frame) (s : State) (R : Room) (n0 : Nat) (Q : Option Value → Heap → Prop) (u : State) : Prop :=
  ∃ s₂ o, Steps p.tables e below u s₂ ∧ s₂.status = .running ∧ Ended s₂ below o ∧ ∃ v Ls, o = .returned v ∧ (Q v s₂.heap ∧ Fr n0 Ls) ∧ FrameEnd s o s₂ Ls R.cells R.slots
/-- from pc with these locals and this stack, the heap being h, k cells and n slots made so far: the body ends as Q says -/
def Go (l : Launch) (Z : State) (R : Room) (y : MethodName) (bs : ByteArray) (ml : Nat) (ret : Option FieldType) (n0 : Nat) (Q : Option Value → Heap → Prop) (h : Heap) (k n : Nat) (pc : Nat) (L : Array Slot) (St : List Value) : Prop :=
  ∀ (p : Program) (e : Env) (s : State) (m : MethodId) (args : Array Value) (below : List Frame) (meth : Method) (c : Code) (T : State) (locs : List Loc),
    Cx p s m meth c Z y bs ml ret → Stand p l e R s m args below meth c T locs k n → Fr n0 locs → T.heap = h → Runs p e below s R n0 Q (T.setTop (mkF m pc L St))
/-- it returns r, the heap as it was -/
def Ret (r : Option Value) (h0 : Heap) : Option Value → Heap → Prop := fun v h => v = r ∧ h0 = h
/-- the law says 1 -/
def One1 : Option Value → Heap → Prop := fun v _ => v = some (.int 1)
/-- the body's contract -/
def Con (l : Launch) (Z : State) (R : Room) (y : MethodName) (bs : ByteArray) (ml : Nat) (ret : Option FieldType) (n0 : Nat) (as' : Array Value) (h : Heap) (Q : Option Value → Heap → Prop) : Prop :=
  ∀ ws, MetFree l y (head1 (Jvm.Cond.code y bs ml ret :: ws) R) (fun a U => a = as' ∧ Z.Warmed39 U.vm ∧ U.heap = h) (fun _ _ _ _ _ => True) (fun _ U o U' => ∃ v Ls, o = .returned v ∧ (Q v U'.heap ∧ Fr n0 Ls) ∧ FrameEnd U o U' Ls R.cells R.slots)
theorem Runs.thru {p : Program} {e : Env} {below : List Frame} {s : State} {R : Room} {n0 : Nat} {Q : Option Value → Heap → Prop} {u u' : State} (q : Runs p e below s R n0 Q u') (st : ∀ t, Steps p.tables e below u' t → Steps p.tables e below u t) : Runs p e below s R n0 Q u := by
  obtain ⟨s₂, o, h1, r⟩ := q
  exact ⟨s₂, o, st _ h1, r⟩
/-- what stood in h0 stands in h -/
theorem ext_refl (h : Heap) : Ext h h := ⟨Nat.le_refl _, fun _ _ q => q⟩
theorem ext_trans {h0 h h' : Heap} (X : Ext h0 h) (E : Ext h h') : Ext h0 h' := ⟨Nat.le_trans X.1 E.1, fun a c q => E.2 a c (X.2 a c q)⟩
theorem ext_keep {h0 h h' : Heap} {ws : List Addr} (X : Ext h0 h) (K : Keep h h' ws) (q : ∀ x ∈ ws, h0.size ≤ x) : Ext h0 h' :=
  ⟨Nat.le_trans X.1 K.1, fun a c r => K.2.1 a c (X.2 a c r) fun z => absurd (Array.getElem?_eq_some_iff.mp r).1 (Nat.not_lt.mpr (q a z))⟩
theorem ext_wr {h0 h h' : Heap} {a : Addr} {sl : Nat} {v : Value} (X : Ext h0 h) (W : Wr h h' a sl v) (q : h0.size ≤ a) : Ext h0 h' := ext_keep X (Keep.of_wr W) (allS q all0)
theorem exa_ns {Z : State} {h : Heap} {a : Addr} {C : String} (E : Exa Z h a C) : ∀ c : Cell, h[a]? = some c → c.vm.isStatics = false := fun c q => by
  obtain ⟨cell, k, h1, -, -, h4, -⟩ := E
  cases h1.symm.trans q
  exact h4
theorem sta_keep {Z : State} {h h' : Heap} {C n d : String} {w : Value} {ws : List Addr} (F : Sta Z h C n d w) (K : Keep h h' ws) (q : ∀ x ∈ ws, ∀ c : Cell, h[x]? = some c → c.vm.isStatics = false) : Sta Z h' C n d w := by
  obtain ⟨cf, i, k, f, st, cell, h1, h2, h3, h4, h5, h6, h7⟩ := F
  exact ⟨cf, i, k, f, st, cell, h1, h2, h3, h4, K.2.1 st cell h5 (fun m => by have r := q st m cell h5; rw [h6] at r; cases r), h6, h7⟩
theorem eqI {args : Array Value} {first s : State} {o : Option Outcome} {idx : List Nat} {a b : Term} {k : Int32} (h : (Cond.eq a b).value args first o s idx = some true) (hb : b.eval args first o idx s = some (.int k)) : a.eval args first o idx s = some (.int k) := by
  obtain ⟨x, z, e1, e2, k1, k2⟩ := cmp_v (Or.inl h)
  cases hb.symm.trans e2
  obtain ⟨w, rfl⟩ := k2
  have h' := h
  simp only [Cond.value, e1, hb, Option.some.injEq, decide_eq_true_eq] at h'
  rw [e1, h']
theorem eqJ {args : Array Value} {first s : State} {o : Option Outcome} {idx : List Nat} {a b : Term} {k : Int64} (h : (Cond.eq a b).value args first o s idx = some true) (hb : b.eval args first o idx s = some (.long k)) : a.eval args first o idx s = some (.long k) := by
  obtain ⟨x, z, e1, e2, k1, k2⟩ := cmp_v (Or.inl h)
  cases hb.symm.trans e2
  obtain ⟨w, rfl⟩ := k2
  have h' := h
  simp only [Cond.value, e1, hb, Option.some.injEq, decide_eq_true_eq] at h'
  rw [e1, h']
theorem arrClass {Z : State} {a0 : Array Value} {C : String} (w : (Cond.arrayOver (.object C)).before a0 Z = true) : (Cond.arrayClass (.object C)).before a0 Z = true := by
  obtain ⟨comp, c, k, -, -, h3, h4, h5⟩ := Cond.arrayOver_spec w
  simp [Cond.before, Cond.holds, Cond.value, h5, h3, h4]
theorem ovrOf {Z : State} {a0 : Array Value} {C : String} {cI : ClassId} (w : (Cond.arrayOver (.object C)).before a0 Z = true) (h : Z.vm.findClass (FieldType.array (.object C)).toString = some cI) : Ovr Z cI C := by
  obtain ⟨comp, c, k, h1, -, h3, h4, h5⟩ := Cond.arrayOver_spec w
  have e : (FieldType.array (.object C)).toString = "[" ++ (FieldType.object C).toString := rfl
  rw [e, h5] at h
  cases h
  exact ⟨k, comp, h3, h4, h1⟩
section Laws
variable {l : Launch} {Z : State} {R : Room} {y : MethodName} {bs : ByteArray} {ml : Nat} {ret : Option FieldType} {n0 : Nat} {Q : Option Value → Heap → Prop} {h : Heap} {k n : Nat} {k' n' : Nat} {pc pc' : Nat} {L L' : Array Slot} {St : List Value} {a0 : Array Value}
theorem Con.of {as' : Array Value} (pn : plainFor y = true) (ef : ∀ m, entryFrame m as' ml = mkF m 0 L []) (b : Go l Z R y bs ml ret n0 Q h 0 0 0 L []) : Con l Z R y bs ml ret n0 as' h Q := by
  intro ws
  refine MetFree.of_bodySF pn hisR ?_
  intro p e s m args below meth c s₁ Bd hml0 hP hK
  obtain ⟨rfl, hZ, hh⟩ := hP
  have X0 : Stand p l e R s m args below meth c s₁ [] 0 0 := Stand.of_body Bd
  have e0 : s₁.heap = h := by rw [← hh, Bd.state]; rfl
  have q := b p e s m args below meth c s₁ [] ⟨Bd.exec, Bd.bytes, hml0, findClass_of_methodNamed Bd.named, (name_of_methodNamed Bd.named Bd.method).1, Bd.returns, Bd.notSynchronized, hZ⟩ X0 (Fr.nil n0) e0
  rw [← ef m] at q
  exact q
theorem Con.mono {as' : Array Value} {Q' : Option Value → Heap → Prop} (q : Con l Z R y bs ml ret n0 as' h Q) (i : ∀ v h', Q v h' → Q' v h') : Con l Z R y bs ml ret n0 as' h Q' := by
  intro ws p e ha hc hk s m args below hf happ hP hK
  obtain ⟨s₂, o, h1, h2, h3, v, Ls, h4, ⟨h5, h6⟩, h7⟩ := q ws p e ha hc hk s m args below hf happ hP hK
  exact ⟨s₂, o, h1, h2, h3, v, Ls, h4, ⟨i _ _ h5, h6⟩, h7⟩
/-- the same, the heap's name turned -/
theorem Go.cast {h' : Heap} (e : h' = h) (q : Go l Z R y bs ml ret n0 Q h' k n pc L St) : Go l Z R y bs ml ret n0 Q h k n pc L St := e ▸ q
theorem Go.more {k' n' : Nat} (hk : k ≤ k') (hn : n ≤ n') (q : Go l Z R y bs ml ret n0 Q h k' n' pc L St) : Go l Z R y bs ml ret n0 Q h k n pc L St := fun p e s m args below meth c T locs C X N eT => q p e s m args below meth c T locs C (X.mono hk hn) N eT
theorem Go.frm {St' : List Value} (q : Go l Z R y bs ml ret n0 Q h k n pc L' St') (e1 : L = L') (e2 : St = St') : Go l Z R y bs ml ret n0 Q h k n pc L St := by subst e1 e2; exact q

theorem iload {i : Nat} {v : Int32} (hd : decode bs pc = .ok (.iload i, 2)) (hl : L[i]? = some (.val (.int v))) (hp : pc + 2 = pc') (kt : Go l Z R y bs ml ret n0 Q h k n pc' L (.int v :: St)) : Go l Z R y bs ml ret n0 Q h k n pc L St := by
  subst hp
  intro p e s m args below meth c T locs C X N eT
  exact (kt p e s m args below meth c T locs C X N eT).thru fun t q => XS.iload X.here C.1 rfl (hb C.2.1 hd) hl q
theorem iloadN {i : Fin 4} {v : Int32} (hd : decode bs pc = .ok (.iload_n i, 1)) (hl : L[i.val]? = some (.val (.int v))) (hp : pc + 1 = pc') (kt : Go l Z R y bs ml ret n0 Q h k n pc' L (.int v :: St)) : Go l Z R y bs ml ret n0 Q h k n pc L St := by
  subst hp
  intro p e s m args below meth c T locs C X N eT
  exact (kt p e s m args below meth c T locs C X N eT).thru fun t q => XS.iloadN X.here C.1 rfl (hb C.2.1 hd) hl q
theorem istore {i : Nat} {v : Int32} (hd : decode bs pc = .ok (.istore i, 2)) (hl : storeLocals L i (.int v) = some L') (hp : pc + 2 = pc') (kt : Go l Z R y bs ml ret n0 Q h k n pc' L' St) : Go l Z R y bs ml ret n0 Q h k n pc L (.int v :: St) := by
  subst hp
  intro p e s m args below meth c T locs C X N eT
  exact (kt p e s m args below meth c T locs C X N eT).thru fun t q => XS.istore X.here C.1 rfl (hb C.2.1 hd) rfl hl q
theorem istoreN {i : Fin 4} {v : Int32} (hd : decode bs pc = .ok (.istore_n i, 1)) (hl : storeLocals L i.val (.int v) = some L') (hp : pc + 1 = pc') (kt : Go l Z R y bs ml ret n0 Q h k n pc' L' St) : Go l Z R y bs ml ret n0 Q h k n pc L (.int v :: St) := by
  subst hp
  intro p e s m args below meth c T locs C X N eT
  exact (kt p e s m args below meth c T locs C X N eT).thru fun t q => XS.istoreN X.here C.1 rfl (hb C.2.1 hd) rfl hl q
theorem lload {i : Nat} {v : Int64} (hd : decode bs pc = .ok (.lload i, 2)) (hl : L[i]? = some (.val (.long v))) (hp : pc + 2 = pc') (kt : Go l Z R y bs ml ret n0 Q h k n pc' L (.long v :: St)) : Go l Z R y bs ml ret n0 Q h k n pc L St := by
  subst hp
  intro p e s m args below meth c T locs C X N eT
  exact (kt p e s m args below meth c T locs C X N eT).thru fun t q => XS.lload X.here C.1 rfl (hb C.2.1 hd) hl q
theorem lloadN {i : Fin 4} {v : Int64} (hd : decode bs pc = .ok (.lload_n i, 1)) (hl : L[i.val]? = some (.val (.long v))) (hp : pc + 1 = pc') (kt : Go l Z R y bs ml ret n0 Q h k n pc' L (.long v :: St)) : Go l Z R y bs ml ret n0 Q h k n pc L St := by
  subst hp
  intro p e s m args below meth c T locs C X N eT
  exact (kt p e s m args below meth c T locs C X N eT).thru fun t q => XS.lloadN X.here C.1 rfl (hb C.2.1 hd) hl q
theorem lstore {i : Nat} {v : Int64} (hd : decode bs pc = .ok (.lstore i, 2)) (hl : storeLocals L i (.long v) = some L') (hp : pc + 2 = pc') (kt : Go l Z R y bs ml ret n0 Q h k n pc' L' St) : Go l Z R y bs ml ret n0 Q h k n pc L (.long v :: St) := by
  subst hp
  intro p e s m args below meth c T locs C X N eT
  exact (kt p e s m args below meth c T locs C X N eT).thru fun t q => XS.lstore X.here C.1 rfl (hb C.2.1 hd) rfl hl q
theorem lstoreN {i : Fin 4} {v : Int64} (hd : decode bs pc = .ok (.lstore_n i, 1)) (hl : storeLocals L i.val (.long v) = some L') (hp : pc + 1 = pc') (kt : Go l Z R y bs ml ret n0 Q h k n pc' L' St) : Go l Z R y bs ml ret n0 Q h k n pc L (.long v :: St) := by
  subst hp
  intro p e s m args below meth c T locs C X N eT
  exact (kt p e s m args below meth c T locs C X N eT).thru fun t q => XS.lstoreN X.here C.1 rfl (hb C.2.1 hd) rfl hl q
theorem aload {i : Nat} {v : Value} (hd : decode bs pc = .ok (.aload i, 2)) (hl : L[i]? = some (.val v)) (hv : v.isRef = true) (hp : pc + 2 = pc') (kt : Go l Z R y bs ml ret n0 Q h k n pc' L (v :: St)) : Go l Z R y bs ml ret n0 Q h k n pc L St := by
  subst hp
  intro p e s m args below meth c T locs C X N eT
  exact (kt p e s m args below meth c T locs C X N eT).thru fun t q => XS.aload X.here C.1 rfl (hb C.2.1 hd) hl hv q
theorem aloadN {i : Fin 4} {v : Value} (hd : decode bs pc = .ok (.aload_n i, 1)) (hl : L[i.val]? = some (.val v)) (hv : v.isRef = true) (hp : pc + 1 = pc') (kt : Go l Z R y bs ml ret n0 Q h k n pc' L (v :: St)) : Go l Z R y bs ml ret n0 Q h k n pc L St := by
  subst hp
  intro p e s m args below meth c T locs C X N eT
  exact (kt p e s m args below meth c T locs C X N eT).thru fun t q => XS.aloadN X.here C.1 rfl (hb C.2.1 hd) hl hv q
theorem astore {i : Nat} {v : Value} (hd : decode bs pc = .ok (.astore i, 2)) (hv : v.isRef = true) (hl : storeLocals L i v = some L') (hp : pc + 2 = pc') (kt : Go l Z R y bs ml ret n0 Q h k n pc' L' St) : Go l Z R y bs ml ret n0 Q h k n pc L (v :: St) := by
  subst hp
  intro p e s m args below meth c T locs C X N eT
  exact (kt p e s m args below meth c T locs C X N eT).thru fun t q => XS.astore X.here C.1 rfl (hb C.2.1 hd) rfl hv hl q
theorem astoreN {i : Fin 4} {v : Value} (hd : decode bs pc = .ok (.astore_n i, 1)) (hv : v.isRef = true) (hl : storeLocals L i.val v = some L') (hp : pc + 1 = pc') (kt : Go l Z R y bs ml ret n0 Q h k n pc' L' St) : Go l Z R y bs ml ret n0 Q h k n pc L (v :: St) := by
  subst hp
  intro p e s m args below meth c T locs C X N eT
  exact (kt p e s m args below meth c T locs C X N eT).thru fun t q => XS.astoreN X.here C.1 rfl (hb C.2.1 hd) rfl hv hl q
theorem iconst {i : Int} {v : Int32} (hd : decode bs pc = .ok (.iconst i, 1)) (hv : Int32.ofInt i = v) (hp : pc + 1 = pc') (kt : Go l Z R y bs ml ret n0 Q h k n pc' L (.int v :: St)) : Go l Z R y bs ml ret n0 Q h k n pc L St := by
  subst hp hv
  intro p e s m args below meth c T locs C X N eT
  exact (kt p e s m args below meth c T locs C X N eT).thru fun t q => XS.iconst X.here C.1 rfl (hb C.2.1 hd) q
theorem bipush {i : Int} {v : Int32} (hd : decode bs pc = .ok (.bipush i, 2)) (hv : (Int8.ofInt i).toInt32 = v) (hp : pc + 2 = pc') (kt : Go l Z R y bs ml ret n0 Q h k n pc' L (.int v :: St)) : Go l Z R y bs ml ret n0 Q h k n pc L St := by
  subst hp hv
  intro p e s m args below meth c T locs C X N eT
  exact (kt p e s m args below meth c T locs C X N eT).thru fun t q => XS.bipush X.here C.1 rfl (hb C.2.1 hd) q
theorem sipush {i : Int} {v : Int32} (hd : decode bs pc = .ok (.sipush i, 3)) (hv : (Int16.ofInt i).toInt32 = v) (hp : pc + 3 = pc') (kt : Go l Z R y bs ml ret n0 Q h k n pc' L (.int v :: St)) : Go l Z R y bs ml ret n0 Q h k n pc L St := by
  subst hp hv
  intro p e s m args below meth c T locs C X N eT
  exact (kt p e s m args below meth c T locs C X N eT).thru fun t q => XS.sipush X.here C.1 rfl (hb C.2.1 hd) q
theorem aconstNull  (hd : decode bs pc = .ok (.aconst_null, 1)) (hp : pc + 1 = pc') (kt : Go l Z R y bs ml ret n0 Q h k n pc' L (.null :: St)) : Go l Z R y bs ml ret n0 Q h k n pc L St := by
  subst hp
  intro p e s m args below meth c T locs C X N eT
  exact (kt p e s m args below meth c T locs C X N eT).thru fun t q => XS.aconstNull X.here C.1 rfl (hb C.2.1 hd) q
theorem iadd {x z : Int32} (hd : decode bs pc = .ok (.iadd, 1)) (hp : pc + 1 = pc') (kt : Go l Z R y bs ml ret n0 Q h k n pc' L (.int (x + z) :: St)) : Go l Z R y bs ml ret n0 Q h k n pc L (.int z :: .int x :: St) := by
  subst hp
  intro p e s m args below meth c T locs C X N eT
  exact (kt p e s m args below meth c T locs C X N eT).thru fun t q => XS.iadd X.here C.1 rfl (hb C.2.1 hd) rfl q
theorem isub {x z : Int32} (hd : decode bs pc = .ok (.isub, 1)) (hp : pc + 1 = pc') (kt : Go l Z R y bs ml ret n0 Q h k n pc' L (.int (x - z) :: St)) : Go l Z R y bs ml ret n0 Q h k n pc L (.int z :: .int x :: St) := by
  subst hp
  intro p e s m args below meth c T locs C X N eT
  exact (kt p e s m args below meth c T locs C X N eT).thru fun t q => XS.isub X.here C.1 rfl (hb C.2.1 hd) rfl q
theorem imul {x z : Int32} (hd : decode bs pc = .ok (.imul, 1)) (hp : pc + 1 = pc') (kt : Go l Z R y bs ml ret n0 Q h k n pc' L (.int (x * z) :: St)) : Go l Z R y bs ml ret n0 Q h k n pc L (.int z :: .int x :: St) := by
  subst hp
  intro p e s m args below meth c T locs C X N eT
  exact (kt p e s m args below meth c T locs C X N eT).thru fun t q => XS.imul X.here C.1 rfl (hb C.2.1 hd) rfl q
theorem iand {x z : Int32} (hd : decode bs pc = .ok (.iand, 1)) (hp : pc + 1 = pc') (kt : Go l Z R y bs ml ret n0 Q h k n pc' L (.int (x &&& z) :: St)) : Go l Z R y bs ml ret n0 Q h k n pc L (.int z :: .int x :: St) := by
  subst hp
  intro p e s m args below meth c T locs C X N eT
  exact (kt p e s m args below meth c T locs C X N eT).thru fun t q => XS.iand X.here C.1 rfl (hb C.2.1 hd) rfl q
theorem ior {x z : Int32} (hd : decode bs pc = .ok (.ior, 1)) (hp : pc + 1 = pc') (kt : Go l Z R y bs ml ret n0 Q h k n pc' L (.int (x ||| z) :: St)) : Go l Z R y bs ml ret n0 Q h k n pc L (.int z :: .int x :: St) := by
  subst hp
  intro p e s m args below meth c T locs C X N eT
  exact (kt p e s m args below meth c T locs C X N eT).thru fun t q => XS.ior X.here C.1 rfl (hb C.2.1 hd) rfl q
theorem ixor {x z : Int32} (hd : decode bs pc = .ok (.ixor, 1)) (hp : pc + 1 = pc') (kt : Go l Z R y bs ml ret n0 Q h k n pc' L (.int (x ^^^ z) :: St)) : Go l Z R y bs ml ret n0 Q h k n pc L (.int z :: .int x :: St) := by
  subst hp
  intro p e s m args below meth c T locs C X N eT
  exact (kt p e s m args below meth c T locs C X N eT).thru fun t q => XS.ixor X.here C.1 rfl (hb C.2.1 hd) rfl q
theorem ishl {x z : Int32} (hd : decode bs pc = .ok (.ishl, 1)) (hp : pc + 1 = pc') (kt : Go l Z R y bs ml ret n0 Q h k n pc' L (.int (x <<< (z &&& 31)) :: St)) : Go l Z R y bs ml ret n0 Q h k n pc L (.int z :: .int x :: St) := by
  subst hp
  intro p e s m args below meth c T locs C X N eT
  exact (kt p e s m args below meth c T locs C X N eT).thru fun t q => XS.ishl X.here C.1 rfl (hb C.2.1 hd) rfl q
theorem ishr {x z : Int32} (hd : decode bs pc = .ok (.ishr, 1)) (hp : pc + 1 = pc') (kt : Go l Z R y bs ml ret n0 Q h k n pc' L (.int (x >>> (z &&& 31)) :: St)) : Go l Z R y bs ml ret n0 Q h k n pc L (.int z :: .int x :: St) := by
  subst hp
  intro p e s m args below meth c T locs C X N eT
  exact (kt p e s m args below meth c T locs C X N eT).thru fun t q => XS.ishr X.here C.1 rfl (hb C.2.1 hd) rfl q
theorem iushr {x z : Int32} (hd : decode bs pc = .ok (.iushr, 1)) (hp : pc + 1 = pc') (kt : Go l Z R y bs ml ret n0 Q h k n pc' L (.int ((x.toUInt32 >>> (z &&& 31).toUInt32).toInt32) :: St)) : Go l Z R y bs ml ret n0 Q h k n pc L (.int z :: .int x :: St) := by
  subst hp
  intro p e s m args below meth c T locs C X N eT
  exact (kt p e s m args below meth c T locs C X N eT).thru fun t q => XS.iushr X.here C.1 rfl (hb C.2.1 hd) rfl q
theorem ladd {x z : Int64} (hd : decode bs pc = .ok (.ladd, 1)) (hp : pc + 1 = pc') (kt : Go l Z R y bs ml ret n0 Q h k n pc' L (.long (x + z) :: St)) : Go l Z R y bs ml ret n0 Q h k n pc L (.long z :: .long x :: St) := by
  subst hp
  intro p e s m args below meth c T locs C X N eT
  exact (kt p e s m args below meth c T locs C X N eT).thru fun t q => XS.ladd X.here C.1 rfl (hb C.2.1 hd) rfl q
theorem lsub {x z : Int64} (hd : decode bs pc = .ok (.lsub, 1)) (hp : pc + 1 = pc') (kt : Go l Z R y bs ml ret n0 Q h k n pc' L (.long (x - z) :: St)) : Go l Z R y bs ml ret n0 Q h k n pc L (.long z :: .long x :: St) := by
  subst hp
  intro p e s m args below meth c T locs C X N eT
  exact (kt p e s m args below meth c T locs C X N eT).thru fun t q => XS.lsub X.here C.1 rfl (hb C.2.1 hd) rfl q
theorem lmul {x z : Int64} (hd : decode bs pc = .ok (.lmul, 1)) (hp : pc + 1 = pc') (kt : Go l Z R y bs ml ret n0 Q h k n pc' L (.long (x * z) :: St)) : Go l Z R y bs ml ret n0 Q h k n pc L (.long z :: .long x :: St) := by
  subst hp
  intro p e s m args below meth c T locs C X N eT
  exact (kt p e s m args below meth c T locs C X N eT).thru fun t q => XS.lmul X.here C.1 rfl (hb C.2.1 hd) rfl q
theorem land {x z : Int64} (hd : decode bs pc = .ok (.land, 1)) (hp : pc + 1 = pc') (kt : Go l Z R y bs ml ret n0 Q h k n pc' L (.long (x &&& z) :: St)) : Go l Z R y bs ml ret n0 Q h k n pc L (.long z :: .long x :: St) := by
  subst hp
  intro p e s m args below meth c T locs C X N eT
  exact (kt p e s m args below meth c T locs C X N eT).thru fun t q => XS.land X.here C.1 rfl (hb C.2.1 hd) rfl q
theorem lor {x z : Int64} (hd : decode bs pc = .ok (.lor, 1)) (hp : pc + 1 = pc') (kt : Go l Z R y bs ml ret n0 Q h k n pc' L (.long (x ||| z) :: St)) : Go l Z R y bs ml ret n0 Q h k n pc L (.long z :: .long x :: St) := by
  subst hp
  intro p e s m args below meth c T locs C X N eT
  exact (kt p e s m args below meth c T locs C X N eT).thru fun t q => XS.lor X.here C.1 rfl (hb C.2.1 hd) rfl q
theorem lxor {x z : Int64} (hd : decode bs pc = .ok (.lxor, 1)) (hp : pc + 1 = pc') (kt : Go l Z R y bs ml ret n0 Q h k n pc' L (.long (x ^^^ z) :: St)) : Go l Z R y bs ml ret n0 Q h k n pc L (.long z :: .long x :: St) := by
  subst hp
  intro p e s m args below meth c T locs C X N eT
  exact (kt p e s m args below meth c T locs C X N eT).thru fun t q => XS.lxor X.here C.1 rfl (hb C.2.1 hd) rfl q
theorem lshl {x : Int64} {z : Int32} (hd : decode bs pc = .ok (.lshl, 1)) (hp : pc + 1 = pc') (kt : Go l Z R y bs ml ret n0 Q h k n pc' L (.long (x <<< (z &&& 0x3f).toInt64) :: St)) : Go l Z R y bs ml ret n0 Q h k n pc L (.int z :: .long x :: St) := by
  subst hp
  intro p e s m args below meth c T locs C X N eT
  exact (kt p e s m args below meth c T locs C X N eT).thru fun t q => XS.lshl X.here C.1 rfl (hb C.2.1 hd) rfl q
theorem lshr {x : Int64} {z : Int32} (hd : decode bs pc = .ok (.lshr, 1)) (hp : pc + 1 = pc') (kt : Go l Z R y bs ml ret n0 Q h k n pc' L (.long (x >>> (z &&& 0x3f).toInt64) :: St)) : Go l Z R y bs ml ret n0 Q h k n pc L (.int z :: .long x :: St) := by
  subst hp
  intro p e s m args below meth c T locs C X N eT
  exact (kt p e s m args below meth c T locs C X N eT).thru fun t q => XS.lshr X.here C.1 rfl (hb C.2.1 hd) rfl q
theorem lushr {x : Int64} {z : Int32} (hd : decode bs pc = .ok (.lushr, 1)) (hp : pc + 1 = pc') (kt : Go l Z R y bs ml ret n0 Q h k n pc' L (.long ((x.toUInt64 >>> (z &&& 0x3f).toInt64.toUInt64).toInt64) :: St)) : Go l Z R y bs ml ret n0 Q h k n pc L (.int z :: .long x :: St) := by
  subst hp
  intro p e s m args below meth c T locs C X N eT
  exact (kt p e s m args below meth c T locs C X N eT).thru fun t q => XS.lushr X.here C.1 rfl (hb C.2.1 hd) rfl q
theorem ineg {x : Int32} (hd : decode bs pc = .ok (.ineg, 1)) (hp : pc + 1 = pc') (kt : Go l Z R y bs ml ret n0 Q h k n pc' L (.int (-x) :: St)) : Go l Z R y bs ml ret n0 Q h k n pc L (.int x :: St) := by
  subst hp
  intro p e s m args below meth c T locs C X N eT
  exact (kt p e s m args below meth c T locs C X N eT).thru fun t q => XS.ineg X.here C.1 rfl (hb C.2.1 hd) rfl q
theorem lneg {x : Int64} (hd : decode bs pc = .ok (.lneg, 1)) (hp : pc + 1 = pc') (kt : Go l Z R y bs ml ret n0 Q h k n pc' L (.long (-x) :: St)) : Go l Z R y bs ml ret n0 Q h k n pc L (.long x :: St) := by
  subst hp
  intro p e s m args below meth c T locs C X N eT
  exact (kt p e s m args below meth c T locs C X N eT).thru fun t q => XS.lneg X.here C.1 rfl (hb C.2.1 hd) rfl q
theorem i2l {x : Int32} (hd : decode bs pc = .ok (.i2l, 1)) (hp : pc + 1 = pc') (kt : Go l Z R y bs ml ret n0 Q h k n pc' L (.long (x.toInt64) :: St)) : Go l Z R y bs ml ret n0 Q h k n pc L (.int x :: St) := by
  subst hp
  intro p e s m args below meth c T locs C X N eT
  exact (kt p e s m args below meth c T locs C X N eT).thru fun t q => XS.i2l X.here C.1 rfl (hb C.2.1 hd) rfl q
theorem l2i {x : Int64} (hd : decode bs pc = .ok (.l2i, 1)) (hp : pc + 1 = pc') (kt : Go l Z R y bs ml ret n0 Q h k n pc' L (.int (x.toInt32) :: St)) : Go l Z R y bs ml ret n0 Q h k n pc L (.long x :: St) := by
  subst hp
  intro p e s m args below meth c T locs C X N eT
  exact (kt p e s m args below meth c T locs C X N eT).thru fun t q => XS.l2i X.here C.1 rfl (hb C.2.1 hd) rfl q
theorem i2b {x : Int32} (hd : decode bs pc = .ok (.i2b, 1)) (hp : pc + 1 = pc') (kt : Go l Z R y bs ml ret n0 Q h k n pc' L (.int (x.toInt8.toInt32) :: St)) : Go l Z R y bs ml ret n0 Q h k n pc L (.int x :: St) := by
  subst hp
  intro p e s m args below meth c T locs C X N eT
  exact (kt p e s m args below meth c T locs C X N eT).thru fun t q => XS.i2b X.here C.1 rfl (hb C.2.1 hd) rfl q
theorem i2s {x : Int32} (hd : decode bs pc = .ok (.i2s, 1)) (hp : pc + 1 = pc') (kt : Go l Z R y bs ml ret n0 Q h k n pc' L (.int (x.toInt16.toInt32) :: St)) : Go l Z R y bs ml ret n0 Q h k n pc L (.int x :: St) := by
  subst hp
  intro p e s m args below meth c T locs C X N eT
  exact (kt p e s m args below meth c T locs C X N eT).thru fun t q => XS.i2s X.here C.1 rfl (hb C.2.1 hd) rfl q
theorem i2c {x : Int32} (hd : decode bs pc = .ok (.i2c, 1)) (hp : pc + 1 = pc') (kt : Go l Z R y bs ml ret n0 Q h k n pc' L (.int (x.toUInt32.toUInt16.toUInt32.toInt32) :: St)) : Go l Z R y bs ml ret n0 Q h k n pc L (.int x :: St) := by
  subst hp
  intro p e s m args below meth c T locs C X N eT
  exact (kt p e s m args below meth c T locs C X N eT).thru fun t q => XS.i2c X.here C.1 rfl (hb C.2.1 hd) rfl q
theorem lcmp {x z : Int64} (hd : decode bs pc = .ok (.lcmp, 1)) (hp : pc + 1 = pc') (kt : Go l Z R y bs ml ret n0 Q h k n pc' L (.int (lcmpW x z) :: St)) : Go l Z R y bs ml ret n0 Q h k n pc L (.long z :: .long x :: St) := by
  subst hp
  intro p e s m args below meth c T locs C X N eT
  exact (kt p e s m args below meth c T locs C X N eT).thru fun t q => XS.lcmp X.here C.1 rfl (hb C.2.1 hd) rfl q
theorem idiv {x z : Int32} (hd : decode bs pc = .ok (.idiv, 1)) (hz : z ≠ 0) (hp : pc + 1 = pc') (kt : Go l Z R y bs ml ret n0 Q h k n pc' L (.int (x / z) :: St)) : Go l Z R y bs ml ret n0 Q h k n pc L (.int z :: .int x :: St) := by
  subst hp
  intro p e s m args below meth c T locs C X N eT
  exact (kt p e s m args below meth c T locs C X N eT).thru fun t q => XS.idiv X.here C.1 rfl (hb C.2.1 hd) rfl hz q
theorem irem {x z : Int32} (hd : decode bs pc = .ok (.irem, 1)) (hz : z ≠ 0) (hp : pc + 1 = pc') (kt : Go l Z R y bs ml ret n0 Q h k n pc' L (.int (x % z) :: St)) : Go l Z R y bs ml ret n0 Q h k n pc L (.int z :: .int x :: St) := by
  subst hp
  intro p e s m args below meth c T locs C X N eT
  exact (kt p e s m args below meth c T locs C X N eT).thru fun t q => iremM X C.1 rfl (hb C.2.1 hd) rfl hz q
theorem lrem {x z : Int64} (hd : decode bs pc = .ok (.lrem, 1)) (hz : z ≠ 0) (hp : pc + 1 = pc') (kt : Go l Z R y bs ml ret n0 Q h k n pc' L (.long (x % z) :: St)) : Go l Z R y bs ml ret n0 Q h k n pc L (.long z :: .long x :: St) := by
  subst hp
  rw [← lrem_mod] at kt
  intro p e s m args below meth c T locs C X N eT
  exact (kt p e s m args below meth c T locs C X N eT).thru fun t q => XS.lrem X.here C.1 rfl (hb C.2.1 hd) rfl hz q
theorem ldiv {x z : Int64} (hd : decode bs pc = .ok (.ldiv, 1)) (hz : z ≠ 0) (hp : pc + 1 = pc') (kt : Go l Z R y bs ml ret n0 Q h k n pc' L (.long (x / z) :: St)) : Go l Z R y bs ml ret n0 Q h k n pc L (.long z :: .long x :: St) := by
  subst hp
  intro p e s m args below meth c T locs C X N eT
  exact (kt p e s m args below meth c T locs C X N eT).thru fun t q => XS.ldiv X.here C.1 rfl (hb C.2.1 hd) rfl hz q
theorem dup {v : Value} (hd : decode bs pc = .ok (.dup, 1)) (hc : v.category = 1) (hp : pc + 1 = pc') (kt : Go l Z R y bs ml ret n0 Q h k n pc' L (v :: v :: St)) : Go l Z R y bs ml ret n0 Q h k n pc L (v :: St) := by
  subst hp
  intro p e s m args below meth c T locs C X N eT
  exact (kt p e s m args below meth c T locs C X N eT).thru fun t q => XS.dup X.here C.1 rfl (hb C.2.1 hd) rfl hc q
theorem pop {v : Value} (hd : decode bs pc = .ok (.pop, 1)) (hc : v.category = 1) (hp : pc + 1 = pc') (kt : Go l Z R y bs ml ret n0 Q h k n pc' L St) : Go l Z R y bs ml ret n0 Q h k n pc L (v :: St) := by
  subst hp
  intro p e s m args below meth c T locs C X N eT
  exact (kt p e s m args below meth c T locs C X N eT).thru fun t q => XS.pop X.here C.1 rfl (hb C.2.1 hd) rfl hc q
theorem dupX1 {v w : Value} (hd : decode bs pc = .ok (.dup_x1, 1)) (hc : v.category = 1) (hw : w.category = 1) (hp : pc + 1 = pc') (kt : Go l Z R y bs ml ret n0 Q h k n pc' L (v :: w :: v :: St)) : Go l Z R y bs ml ret n0 Q h k n pc L (v :: w :: St) := by
  subst hp
  intro p e s m args below meth c T locs C X N eT
  exact (kt p e s m args below meth c T locs C X N eT).thru fun t q => XS.dupX1 X.here C.1 rfl (hb C.2.1 hd) rfl hc hw q
theorem dup2 {v w : Value} (hd : decode bs pc = .ok (.dup2, 1)) (hc : v.category = 1) (hw : w.category = 1) (hp : pc + 1 = pc') (kt : Go l Z R y bs ml ret n0 Q h k n pc' L (v :: w :: v :: w :: St)) : Go l Z R y bs ml ret n0 Q h k n pc L (v :: w :: St) := by
  subst hp
  intro p e s m args below meth c T locs C X N eT
  exact (kt p e s m args below meth c T locs C X N eT).thru fun t q => XT.dup2 X.here C.1 rfl (hb C.2.1 hd) rfl hc hw q
theorem dup2L {x : Int64} (hd : decode bs pc = .ok (.dup2, 1)) (hp : pc + 1 = pc') (kt : Go l Z R y bs ml ret n0 Q h k n pc' L (.long x :: .long x :: St)) : Go l Z R y bs ml ret n0 Q h k n pc L (.long x :: St) := by
  subst hp
  intro p e s m args below meth c T locs C X N eT
  exact (kt p e s m args below meth c T locs C X N eT).thru fun t q => XT.dup2L X.here C.1 rfl (hb C.2.1 hd) rfl q
theorem lconst {i : Fin 2} {v : Int64} (hd : decode bs pc = .ok (.lconst i, 1)) (hv : Int64.ofNat i.val = v) (hp : pc + 1 = pc') (kt : Go l Z R y bs ml ret n0 Q h k n pc' L (.long v :: St)) : Go l Z R y bs ml ret n0 Q h k n pc L St := by
  subst hp hv
  intro p e s m args below meth c T locs C X N eT
  exact (kt p e s m args below meth c T locs C X N eT).thru fun t q => XS.lconst X.here C.1 rfl (hb C.2.1 hd) q
theorem iinc {i : Nat} {cst : Int} {x d : Int32} (hd : decode bs pc = .ok (.iinc i cst, 3)) (hl : L[i]? = some (.val (.int x))) (hv : Int32.ofInt cst = d) (hs : storeLocals L i (.int (x + d)) = some L') (hp : pc + 3 = pc') (kt : Go l Z R y bs ml ret n0 Q h k n pc' L' St) : Go l Z R y bs ml ret n0 Q h k n pc L St := by
  subst hp hv
  intro p e s m args below meth c T locs C X N eT
  exact (kt p e s m args below meth c T locs C X N eT).thru fun t q => XS.iinc X.here C.1 rfl (hb C.2.1 hd) hl hs q
theorem goto {o : Int} (hd : decode bs pc = .ok (.goto o, 3)) (ho : 0 ≤ (pc : Int) + o) (hp : ((pc : Int) + o).toNat = pc') (kt : Go l Z R y bs ml ret n0 Q h k n pc' L St) : Go l Z R y bs ml ret n0 Q h k n pc L St := by
  intro p e s m args below meth c T locs C X N eT
  exact (kt p e s m args below meth c T locs C X N eT).thru fun t q => XS.goto X.here C.1 rfl rfl (hb C.2.1 hd) ho hp q
theorem icmpY {cd : ClassFile.Cond} {o : Int} {x z : Int32} (hd : decode bs pc = .ok (.if_icmp cd o, 3)) (hc : if_icmp.holds cd x z = true) (ho : 0 ≤ (pc : Int) + o) (hp : ((pc : Int) + o).toNat = pc') (kt : Go l Z R y bs ml ret n0 Q h k n pc' L St) : Go l Z R y bs ml ret n0 Q h k n pc L (.int z :: .int x :: St) := by
  intro p e s m args below meth c T locs C X N eT
  exact (kt p e s m args below meth c T locs C X N eT).thru fun t q => XS.icmpYes X.here C.1 rfl rfl (hb C.2.1 hd) rfl hc ho hp q
theorem icmpN {cd : ClassFile.Cond} {o : Int} {x z : Int32} (hd : decode bs pc = .ok (.if_icmp cd o, 3)) (hc : if_icmp.holds cd x z = false) (hp : pc + 3 = pc') (kt : Go l Z R y bs ml ret n0 Q h k n pc' L St) : Go l Z R y bs ml ret n0 Q h k n pc L (.int z :: .int x :: St) := by
  subst hp
  intro p e s m args below meth c T locs C X N eT
  exact (kt p e s m args below meth c T locs C X N eT).thru fun t q => XS.icmpNo X.here C.1 rfl (hb C.2.1 hd) rfl hc q
theorem ifcY {cd : ClassFile.Cond} {o : Int} {x : Int32} (hd : decode bs pc = .ok (.ifCond cd o, 3)) (hc : ifCond.holds cd x = true) (ho : 0 ≤ (pc : Int) + o) (hp : ((pc : Int) + o).toNat = pc') (kt : Go l Z R y bs ml ret n0 Q h k n pc' L St) : Go l Z R y bs ml ret n0 Q h k n pc L (.int x :: St) := by
  intro p e s m args below meth c T locs C X N eT
  exact (kt p e s m args below meth c T locs C X N eT).thru fun t q => XS.ifYes X.here C.1 rfl rfl (hb C.2.1 hd) rfl hc ho hp q
theorem ifcN {cd : ClassFile.Cond} {o : Int} {x : Int32} (hd : decode bs pc = .ok (.ifCond cd o, 3)) (hc : ifCond.holds cd x = false) (hp : pc + 3 = pc') (kt : Go l Z R y bs ml ret n0 Q h k n pc' L St) : Go l Z R y bs ml ret n0 Q h k n pc L (.int x :: St) := by
  subst hp
  intro p e s m args below meth c T locs C X N eT
  exact (kt p e s m args below meth c T locs C X N eT).thru fun t q => XS.ifNo X.here C.1 rfl (hb C.2.1 hd) rfl hc q
theorem ifnullY {o : Int}  (hd : decode bs pc = .ok (.ifnull o, 3)) (ho : 0 ≤ (pc : Int) + o) (hp : ((pc : Int) + o).toNat = pc') (kt : Go l Z R y bs ml ret n0 Q h k n pc' L St) : Go l Z R y bs ml ret n0 Q h k n pc L (.null :: St) := by
  intro p e s m args below meth c T locs C X N eT
  exact (kt p e s m args below meth c T locs C X N eT).thru fun t q => XS.ifnullYes X.here C.1 rfl rfl (hb C.2.1 hd) rfl ho hp q
theorem ifnullN {o : Int} {b : Addr} (hd : decode bs pc = .ok (.ifnull o, 3)) (hp : pc + 3 = pc') (kt : Go l Z R y bs ml ret n0 Q h k n pc' L St) : Go l Z R y bs ml ret n0 Q h k n pc L (.ref b :: St) := by
  subst hp
  intro p e s m args below meth c T locs C X N eT
  exact (kt p e s m args below meth c T locs C X N eT).thru fun t q => XS.ifnullNo X.here C.1 rfl (hb C.2.1 hd) rfl q
theorem ifnonnullY {o : Int} {b : Addr} (hd : decode bs pc = .ok (.ifnonnull o, 3)) (ho : 0 ≤ (pc : Int) + o) (hp : ((pc : Int) + o).toNat = pc') (kt : Go l Z R y bs ml ret n0 Q h k n pc' L St) : Go l Z R y bs ml ret n0 Q h k n pc L (.ref b :: St) := by
  intro p e s m args below meth c T locs C X N eT
  exact (kt p e s m args below meth c T locs C X N eT).thru fun t q => XS.ifnonnullYes X.here C.1 rfl rfl (hb C.2.1 hd) rfl ho hp q
theorem ifnonnullN {o : Int}  (hd : decode bs pc = .ok (.ifnonnull o, 3)) (hp : pc + 3 = pc') (kt : Go l Z R y bs ml ret n0 Q h k n pc' L St) : Go l Z R y bs ml ret n0 Q h k n pc L (.null :: St) := by
  subst hp
  intro p e s m args below meth c T locs C X N eT
  exact (kt p e s m args below meth c T locs C X N eT).thru fun t q => XS.ifnonnullNo X.here C.1 rfl (hb C.2.1 hd) rfl q
theorem acmp {cd : ACond} {o : Int} {x z : Value} {same : Bool} (hd : decode bs pc = .ok (.if_acmp cd o, 3)) (h1 : x.isRef = true) (h2 : z.isRef = true) (hq : decide (x = z) = same) (ho : 0 ≤ (pc : Int) + o) (hp : pc' = if acV cd same = true then ((pc : Int) + o).toNat else pc + 3) (kt : Go l Z R y bs ml ret n0 Q h k n pc' L St) : Go l Z R y bs ml ret n0 Q h k n pc L (z :: x :: St) := by
  intro p e s m args below meth c T locs C X N eT
  exact (kt p e s m args below meth c T locs C X N eT).thru fun t q => Jvm.RoadKit.acmp (g := mkF m pc L (z :: x :: St)) X C.1 rfl h1 h2 rfl (hb C.2.1 hd) rfl hq ho hp q
theorem pop2J {x : Int64} (hd : decode bs pc = .ok (.pop2, 1)) (hp : pc + 1 = pc') (kt : Go l Z R y bs ml ret n0 Q h k n pc' L St) : Go l Z R y bs ml ret n0 Q h k n pc L (.long x :: St) := by
  subst hp
  intro p e s m args below meth c T locs C X N eT
  have hx := C.1
  have hd' := hb C.2.1 hd
  refine (kt p e s m args below meth c T locs C X N eT).thru fun t q => ?_
  show Steps p.tables e below (T.setTop { method := m, pc := pc, locals := L, stack := .long x :: St, locked := none }) t
  jvm_step X.here [X.here.top, hx, hd', Value.category]
  exact q
theorem tswIn {dflt low high : Int} {offs : Array Int} {len : Nat} {o : Int} {i : Int32} (hd : decode bs pc = .ok (.tableswitch dflt low high offs, len)) (hin : ¬ (i.toInt < low ∨ i.toInt > high)) (hoff : offs[(i.toInt - low).toNat]? = some o) (ho : 0 ≤ (pc : Int) + o) (hp : ((pc : Int) + o).toNat = pc') (kt : Go l Z R y bs ml ret n0 Q h k n pc' L St) : Go l Z R y bs ml ret n0 Q h k n pc L (.int i :: St) := by
  intro p e s m args below meth c T locs C X N eT
  exact (kt p e s m args below meth c T locs C X N eT).thru fun t q => XS.tswIn X.here C.1 rfl rfl (hb C.2.1 hd) rfl hin hoff ho hp q
theorem tswOut {dflt low high : Int} {offs : Array Int} {len : Nat} {i : Int32} (hd : decode bs pc = .ok (.tableswitch dflt low high offs, len)) (hout : i.toInt < low ∨ i.toInt > high) (ho : 0 ≤ (pc : Int) + dflt) (hp : ((pc : Int) + dflt).toNat = pc') (kt : Go l Z R y bs ml ret n0 Q h k n pc' L St) : Go l Z R y bs ml ret n0 Q h k n pc L (.int i :: St) := by
  intro p e s m args below meth c T locs C X N eT
  exact (kt p e s m args below meth c T locs C X N eT).thru fun t q => XS.tswOut X.here C.1 rfl rfl (hb C.2.1 hd) rfl hout ho hp q
theorem ret0 (hd : decode bs pc = .ok (.return_, 1)) (hr : ret = none) (hk : k ≤ R.cells) (hn : n ≤ R.slots) (hQ : Q none h) : Go l Z R y bs ml ret n0 Q h k n pc L [] := by
  intro p e s m args below meth c T locs C X N eT
  have hret := C.2.2.2.2.2.1.trans hr
  obtain ⟨fs, hl, hrun, hended, hW, hsame⟩ := X.leave (v := none) (fun _ => rfl) C.2.2.2.2.2.2.1
  exact ⟨_, _, X.returnOut C.1 hret (hb C.2.1 hd) hl, hrun, hended, _, _, rfl, ⟨by show Q none T.heap; rw [eT]; exact hQ, N⟩, ⟨_, rfl⟩, hW, hsame.mono hk hn⟩
theorem retN {t : FieldType} {x x' : Int32} (hd : decode bs pc = .ok (.ireturn, 1)) (hr : ret = some t) (ht : t = .boolean ∨ t = .byte ∨ t = .char ∨ t = .short) (hx : nar t x = x') (hk : k ≤ R.cells) (hn : n ≤ R.slots) (hQ : Q (some (.int x')) h) : Go l Z R y bs ml ret n0 Q h k n pc L (.int x :: St) := by
  intro p e s m args below meth c T locs C X N eT
  have hret := C.2.2.2.2.2.1.trans hr
  subst hx
  obtain ⟨fs, hl, hrun, hended, hW, hsame⟩ := X.leave (v := some (.int (nar t x))) (fun q => by rw [hret] at q; cases q) C.2.2.2.2.2.2.1
  exact ⟨_, _, Jvm.RoadKit.retN X C.1 hret ht (hb C.2.1 hd) hl, hrun, hended, _, _, rfl, ⟨by show Q _ T.heap; rw [eT]; exact hQ, N⟩, ⟨_, rfl⟩, hW, hsame.mono hk hn⟩
theorem retI {x : Int32} (hd : decode bs pc = .ok (.ireturn, 1)) (hr : ret = some .int) (hk : k ≤ R.cells) (hn : n ≤ R.slots) (hQ : Q (some (.int x)) h) : Go l Z R y bs ml ret n0 Q h k n pc L (.int x :: St) := by
  intro p e s m args below meth c T locs C X N eT
  have hret := C.2.2.2.2.2.1.trans hr
  obtain ⟨fs, hl, hrun, hended, hW, hsame⟩ := X.leave (v := some (.int x)) (fun q => by rw [hret] at q; cases q) C.2.2.2.2.2.2.1
  exact ⟨_, _, Jvm.RoadKit.retOut X C.1 hret rfl (Or.inl ⟨rfl, Or.inl rfl, _, rfl⟩) (hb C.2.1 hd) hl, hrun, hended, _, _, rfl, ⟨by show Q _ T.heap; rw [eT]; exact hQ, N⟩, ⟨_, rfl⟩, hW, hsame.mono hk hn⟩
theorem retJ {x : Int64} (hd : decode bs pc = .ok (.lreturn, 1)) (hr : ret = some .long) (hk : k ≤ R.cells) (hn : n ≤ R.slots) (hQ : Q (some (.long x)) h) : Go l Z R y bs ml ret n0 Q h k n pc L (.long x :: St) := by
  intro p e s m args below meth c T locs C X N eT
  have hret := C.2.2.2.2.2.1.trans hr
  obtain ⟨fs, hl, hrun, hended, hW, hsame⟩ := X.leave (v := some (.long x)) (fun q => by rw [hret] at q; cases q) C.2.2.2.2.2.2.1
  exact ⟨_, _, Jvm.RoadKit.retOut X C.1 hret rfl (Or.inr (Or.inl ⟨rfl, rfl, _, rfl⟩)) (hb C.2.1 hd) hl, hrun, hended, _, _, rfl, ⟨by show Q _ T.heap; rw [eT]; exact hQ, N⟩, ⟨_, rfl⟩, hW, hsame.mono hk hn⟩
theorem retD {x : UInt64} (hd : decode bs pc = .ok (.dreturn, 1)) (hr : ret = some .double) (hk : k ≤ R.cells) (hn : n ≤ R.slots) (hQ : Q (some (.double x)) h) : Go l Z R y bs ml ret n0 Q h k n pc L (.double x :: St) := by
  intro p e s m args below meth c T locs C X N eT
  have hret := C.2.2.2.2.2.1.trans hr
  obtain ⟨fs, hl, hrun, hended, hW, hsame⟩ := X.leave (v := some (.double x)) (fun q => by rw [hret] at q; cases q) C.2.2.2.2.2.2.1
  exact ⟨_, _, Jvm.RoadKit.retOut X C.1 hret rfl (Or.inr (Or.inr (Or.inl ⟨rfl, rfl, _, rfl⟩))) (hb C.2.1 hd) hl, hrun, hended, _, _, rfl, ⟨by show Q _ T.heap; rw [eT]; exact hQ, N⟩, ⟨_, rfl⟩, hW, hsame.mono hk hn⟩
theorem retA {t : FieldType} {v : Value} (hd : decode bs pc = .ok (.areturn, 1)) (hr : ret = some t) (ht : t.isReference = true) (hv : v.isRef = true) (hk : k ≤ R.cells) (hn : n ≤ R.slots) (hQ : Q (some v) h) : Go l Z R y bs ml ret n0 Q h k n pc L (v :: St) := by
  intro p e s m args below meth c T locs C X N eT
  have hret := C.2.2.2.2.2.1.trans hr
  obtain ⟨fs, hl, hrun, hended, hW, hsame⟩ := X.leave (v := some v) (fun q => by rw [hret] at q; cases q) C.2.2.2.2.2.2.1
  have hna : narrow t v = v := by rcases ref_cases hv with rfl | ⟨a, rfl⟩ <;> cases t <;> first | rfl | (cases ht)
  exact ⟨_, _, Jvm.RoadKit.retOut X C.1 hret hna (Or.inr (Or.inr (Or.inr (Or.inr ⟨rfl, ht, hv⟩)))) (hb C.2.1 hd) hl, hrun, hended, _, _, rfl, ⟨by show Q _ T.heap; rw [eT]; exact hQ, N⟩, ⟨_, rfl⟩, hW, hsame.mono hk hn⟩
theorem ldcI {index : Nat} {v : Int32} (hd : decode bs pc = .ok (.ldc index, 2)) (w : (Cond.constant y.cls index v).before a0 Z = true) (hp : pc + 2 = pc') (kt : Go l Z R y bs ml ret n0 Q h k n pc' L (.int v :: St)) : Go l Z R y bs ml ret n0 Q h k n pc L St := by
  subst hp
  intro p e s m args below meth c T locs C X N eT
  exact (kt p e s m args below meth c T locs C X N eT).thru (X.ldcInt C.1 C.2.2.2.1 (mvT C.2.2.2.2.2.2.2 w) (g := mkF m pc L St) rfl (hb C.2.1 hd))
theorem ldcwI {index : Nat} {v : Int32} (hd : decode bs pc = .ok (.ldc_w index, 3)) (w : (Cond.constant y.cls index v).before a0 Z = true) (hp : pc + 3 = pc') (kt : Go l Z R y bs ml ret n0 Q h k n pc' L (.int v :: St)) : Go l Z R y bs ml ret n0 Q h k n pc L St := by
  subst hp
  intro p e s m args below meth c T locs C X N eT
  exact (kt p e s m args below meth c T locs C X N eT).thru (X.ldcwInt C.1 C.2.2.2.1 (mvT C.2.2.2.2.2.2.2 w) (g := mkF m pc L St) rfl (hb C.2.1 hd))
theorem ldc2J {index : Nat} {v : Int64} (hd : decode bs pc = .ok (.ldc2_w index, 3)) (w : (Cond.constantLong y.cls index v).before a0 Z = true) (hp : pc + 3 = pc') (kt : Go l Z R y bs ml ret n0 Q h k n pc' L (.long v :: St)) : Go l Z R y bs ml ret n0 Q h k n pc L St := by
  subst hp
  intro p e s m args below meth c T locs C X N eT
  exact (kt p e s m args below meth c T locs C X N eT).thru (X.ldc2Long C.1 C.2.2.2.1 (mvT C.2.2.2.2.2.2.2 w) (g := mkF m pc L St) rfl (hb C.2.1 hd))
theorem getF {R0 O nm d host : String} {index : Nat} {a : Addr} {v : Value} (hd : decode bs pc = .ok (.getfield index, 3)) (w : (Cond.fieldLink y.cls index R0 nm d).before a0 Z = true ∨ (Cond.fieldLinkNest y.cls index R0 nm d host).before a0 Z = true) (via : Via Z R0 O nm d) (F : Fld Z h a O nm d v) (hp : pc + 3 = pc') (kt : Go l Z R y bs ml ret n0 Q h k n pc' L (v :: St)) : Go l Z R y bs ml ret n0 Q h k n pc L (.ref a :: St) := by
  subst hp
  intro p e s m args below meth c T locs C X N eT
  obtain ⟨T', X', e', st⟩ := Jvm.RoadKit.getF X C.1 C.2.2.2.2.2.2.2 C.2.2.2.1 w via eT F (g := mkF m pc L (.ref a :: St)) rfl rfl (hb C.2.1 hd)
  exact (kt p e s m args below meth c T' locs C X' N e').thru st
theorem getS {R0 O nm d host : String} {index : Nat} {v : Value} (hd : decode bs pc = .ok (.getstatic index, 3)) (w : (Cond.fieldLink y.cls index R0 nm d).before a0 Z = true ∨ (Cond.fieldLinkNest y.cls index R0 nm d host).before a0 Z = true) (via : Via Z R0 O nm d) (F : Sta Z h O nm d v) (hp : pc + 3 = pc') (kt : Go l Z R y bs ml ret n0 Q h k n pc' L (v :: St)) : Go l Z R y bs ml ret n0 Q h k n pc L St := by
  subst hp
  intro p e s m args below meth c T locs C X N eT
  obtain ⟨T', X', e', st⟩ := getS2 X C.1 C.2.2.2.2.2.2.2 C.2.2.2.1 w via eT F (g := mkF m pc L St) rfl (hb C.2.1 hd)
  exact (kt p e s m args below meth c T' locs C X' N e').thru st
theorem putF {R0 O nm d host CC : String} {index kk : Nat} {ty : FieldType} {a : Addr} {v old : Value} (hd : decode bs pc = .ok (.putfield index, 3)) (w : (Cond.fieldLink y.cls index R0 nm d).before a0 Z = true ∨ (Cond.fieldLinkNest y.cls index R0 nm d host).before a0 Z = true) (via : Via Z R0 O nm d) (F : Fld Z h a O nm d old) (E : Exa Z h a CC)
    (Ly : (Cond.lays CC O nm d).before a0 Z = true ∨ ((Cond.laysFinal CC O nm d).before a0 Z = true ∧ y.cls = O ∧ y.name = "<init>")) (wi : (Cond.instantiable CC kk).before a0 Z = true) (hty : parseFieldDescriptor d = some ty) (hn : narrow ty v = v) (hf : fits ty v = true) (g : n0 ≤ a) (hp : pc + 3 = pc')
    (kt : ∀ h', Wr h h' a (Jvm.RoadKit.slotOf Z O nm d) v → Go l Z R y bs ml ret n0 Q h' k n pc' L St) : Go l Z R y bs ml ret n0 Q h k n pc L (v :: .ref a :: St) := by
  subst hp
  intro p e s m args below meth c T locs C X N eT
  obtain ⟨T', h', X', e', W', st⟩ := Jvm.RoadKit.putF X C.1 C.2.2.2.2.2.2.2 C.2.2.2.1 w via eT F E (Ly.imp id fun q => ⟨q.1, q.2.1, C.2.2.2.2.1.trans q.2.2⟩) wi hty hn hf (g := mkF m pc L (v :: .ref a :: St)) rfl rfl (hb C.2.1 hd)
  exact (kt h' W' p e s m args below meth c T' _ C X' (Fr.snoc X' N g) e').thru st
theorem putFN {R0 O nm d CC : String} {index kk : Nat} {ty : FieldType} {a : Addr} {v v' old : Value} (hd : decode bs pc = .ok (.putfield index, 3)) (w : (Cond.fieldLink y.cls index R0 nm d).before a0 Z = true) (via : Via Z R0 O nm d) (F : Fld Z h a O nm d old) (E : Exa Z h a CC)
    (Ly : (Cond.lays CC O nm d).before a0 Z = true ∨ ((Cond.laysFinal CC O nm d).before a0 Z = true ∧ y.cls = O ∧ y.name = "<init>")) (wi : (Cond.instantiable CC kk).before a0 Z = true) (hty : parseFieldDescriptor d = some ty) (hn : narrow ty v = v') (hf : fits ty v' = true) (g : n0 ≤ a) (hp : pc + 3 = pc')
    (kt : ∀ h', Wr h h' a (Jvm.RoadKit.slotOf Z O nm d) v' → Go l Z R y bs ml ret n0 Q h' k n pc' L St) : Go l Z R y bs ml ret n0 Q h k n pc L (v :: .ref a :: St) := by
  subst hp
  intro p e s m args below meth c T locs C X N eT
  obtain ⟨T', h', X', e', W', st⟩ := Jvm.RoadKit.putFN X C.1 C.2.2.2.2.2.2.2 C.2.2.2.1 w via eT F E (Ly.imp id fun q => ⟨q.1, q.2.1, C.2.2.2.2.1.trans q.2.2⟩) wi hty hn hf (g := mkF m pc L (v :: .ref a :: St)) rfl rfl (hb C.2.1 hd)
  exact (kt h' W' p e s m args below meth c T' _ C X' (Fr.snoc X' N g) e').thru st
theorem newO {CC : String} {index nn : Nat} (hd : decode bs pc = .ok (.new index, 3)) (w : (Cond.classLink y.cls index CC).before a0 Z = true) (wi : (Cond.instantiable CC nn).before a0 Z = true) (wz : (Cond.initialized CC).before a0 Z = true) (ek : k + 1 = k') (en : n + nn = n') (hc : k' ≤ R.cells) (hl : n' ≤ R.slots) (hp : pc + 3 = pc')
    (kt : ∀ h' a, a = h.size → Ext h h' → Exa Z h' a CC → (∀ {O nm d : String} {ty : FieldType}, Laid Z a0 CC O nm d → parseFieldDescriptor d = some ty → Fld Z h' a O nm d (defaultValue ty)) → Go l Z R y bs ml ret n0 Q h' k' n' pc' L (.ref a :: St)) : Go l Z R y bs ml ret n0 Q h k n pc L St := by
  subst hp ek en
  intro p e s m args below meth c T locs C X N eT
  obtain ⟨T', h', X', e', E, A, D, -, st⟩ := Jvm.RoadKit.newO X C.1 C.2.2.2.2.2.2.2 C.2.2.2.1 w wi wz eT (g := mkF m pc L St) rfl (hb C.2.1 hd) hc hl
  exact (kt h' _ rfl E A D p e s m args below meth c T' _ C X' N e').thru st
theorem newP {aty : ArrayType} {x : Int32} {cap : Nat} (hd : decode bs pc = .ok (.newarray aty, 2)) (w : (Cond.arrayClass (newarray.typeOf aty)).before a0 Z = true) (hn : ¬ x < 0) (hcap : x.toNatClampNeg ≤ cap) (hb' : cap * 8 ≤ 536870912) (ek : k + 1 = k') (en : n + cap = n') (hc : k' ≤ R.cells) (hl : n' ≤ R.slots) (hp : pc + 2 = pc')
    (kt : ∀ h' cA a, a = h.size → Ext h h' → Arr Z h' a (newA cA (newarray.typeOf aty) x) (newarray.typeOf aty) → Go l Z R y bs ml ret n0 Q h' k' n' pc' L (.ref a :: St)) : Go l Z R y bs ml ret n0 Q h k n pc L (.int x :: St) := by
  subst hp ek en
  intro p e s m args below meth c T locs C X N eT
  obtain ⟨T', h', cA, X', e', E, A, st⟩ := Jvm.RoadKit.newP X C.1 C.2.2.2.2.2.2.2 w eT (g := mkF m pc L (.int x :: St)) rfl (hb C.2.1 hd) rfl hn hcap hb' hc hl
  exact (kt h' cA _ rfl E A p e s m args below meth c T' _ C X' N e').thru st
theorem newR {CC : String} {index : Nat} {x : Int32} {cap : Nat} (hd : decode bs pc = .ok (.anewarray index, 3)) (w1 : (Cond.classLink y.cls index CC).before a0 Z = true) (w2 : (Cond.arrayOver (.object CC)).before a0 Z = true) (hn : ¬ x < 0) (hcap : x.toNatClampNeg ≤ cap) (hb' : cap * 8 ≤ 536870912) (ek : k + 1 = k') (en : n + cap = n') (hc : k' ≤ R.cells) (hl : n' ≤ R.slots) (hp : pc + 3 = pc')
    (kt : ∀ h' cA a, a = h.size → Ext h h' → Arr Z h' a (newA cA (.object CC) x) (.object CC) → Ovr Z cA CC → Go l Z R y bs ml ret n0 Q h' k' n' pc' L (.ref a :: St)) : Go l Z R y bs ml ret n0 Q h k n pc L (.int x :: St) := by
  subst hp ek en
  intro p e s m args below meth c T locs C X N eT
  obtain ⟨T', h', cA, X', e', E, A, O, st⟩ := Jvm.RoadKit.newR X C.1 C.2.2.2.2.2.2.2 C.2.2.2.1 w1 w2 eT (g := mkF m pc L (.int x :: St)) rfl (hb C.2.1 hd) rfl hn hcap hb' hc hl
  exact (kt h' cA _ rfl E A O p e s m args below meth c T' _ C X' N e').thru st
theorem stI {a : Addr} {cl : Cell} {j : Int32} {x : Int32} (hd : decode bs pc = .ok (.iastore, 1)) (A : Arr Z h a cl .int) (hj : ¬ (j < 0 ∨ cl.slots.size ≤ j.toNatClampNeg)) (g : n0 ≤ a) (hp : pc + 1 = pc') (kt : ∀ h', Wr h h' a j.toNatClampNeg (.int x) → Go l Z R y bs ml ret n0 Q h' k n pc' L St) : Go l Z R y bs ml ret n0 Q h k n pc L (.int x :: .int j :: .ref a :: St) := by
  subst hp
  intro p e s m args below meth c T locs C X N eT
  obtain ⟨T', h', X', e', W', st⟩ := Jvm.RoadKit.stI X C.1 C.2.2.2.2.2.2.2 eT A hj (g := mkF m pc L (.int x :: .int j :: .ref a :: St)) rfl rfl (hb C.2.1 hd)
  exact (kt h' W' p e s m args below meth c T' _ C X' (Fr.snoc X' N g) e').thru st
theorem stJ {a : Addr} {cl : Cell} {j : Int32} {x : Int64} (hd : decode bs pc = .ok (.lastore, 1)) (A : Arr Z h a cl .long) (hj : ¬ (j < 0 ∨ cl.slots.size ≤ j.toNatClampNeg)) (g : n0 ≤ a) (hp : pc + 1 = pc') (kt : ∀ h', Wr h h' a j.toNatClampNeg (.long x) → Go l Z R y bs ml ret n0 Q h' k n pc' L St) : Go l Z R y bs ml ret n0 Q h k n pc L (.long x :: .int j :: .ref a :: St) := by
  subst hp
  intro p e s m args below meth c T locs C X N eT
  obtain ⟨T', h', X', e', W', st⟩ := Jvm.RoadKit.stJ X C.1 C.2.2.2.2.2.2.2 eT A hj (g := mkF m pc L (.long x :: .int j :: .ref a :: St)) rfl rfl (hb C.2.1 hd)
  exact (kt h' W' p e s m args below meth c T' _ C X' (Fr.snoc X' N g) e').thru st
theorem stB {a : Addr} {cl : Cell} {j : Int32} {x : Int32} (hd : decode bs pc = .ok (.bastore, 1)) (A : Arr Z h a cl .byte) (hj : ¬ (j < 0 ∨ cl.slots.size ≤ j.toNatClampNeg)) (g : n0 ≤ a) (hp : pc + 1 = pc') (kt : ∀ h', Wr h h' a j.toNatClampNeg (.int (nar .byte x)) → Go l Z R y bs ml ret n0 Q h' k n pc' L St) : Go l Z R y bs ml ret n0 Q h k n pc L (.int x :: .int j :: .ref a :: St) := by
  subst hp
  intro p e s m args below meth c T locs C X N eT
  obtain ⟨T', h', X', e', W', st⟩ := Jvm.RoadKit.stB X C.1 C.2.2.2.2.2.2.2 eT A hj (g := mkF m pc L (.int x :: .int j :: .ref a :: St)) rfl rfl (hb C.2.1 hd)
  exact (kt h' W' p e s m args below meth c T' _ C X' (Fr.snoc X' N g) e').thru st
theorem stC {a : Addr} {cl : Cell} {j : Int32} {x : Int32} (hd : decode bs pc = .ok (.castore, 1)) (A : Arr Z h a cl .char) (hj : ¬ (j < 0 ∨ cl.slots.size ≤ j.toNatClampNeg)) (g : n0 ≤ a) (hp : pc + 1 = pc') (kt : ∀ h', Wr h h' a j.toNatClampNeg (.int (nar .char x)) → Go l Z R y bs ml ret n0 Q h' k n pc' L St) : Go l Z R y bs ml ret n0 Q h k n pc L (.int x :: .int j :: .ref a :: St) := by
  subst hp
  intro p e s m args below meth c T locs C X N eT
  obtain ⟨T', h', X', e', W', st⟩ := Jvm.RoadKit.stC X C.1 C.2.2.2.2.2.2.2 eT A hj (g := mkF m pc L (.int x :: .int j :: .ref a :: St)) rfl rfl (hb C.2.1 hd)
  exact (kt h' W' p e s m args below meth c T' _ C X' (Fr.snoc X' N g) e').thru st
theorem stZ {a : Addr} {cl : Cell} {j : Int32} {x : Int32} (hd : decode bs pc = .ok (.bastore, 1)) (A : Arr Z h a cl .boolean) (hj : ¬ (j < 0 ∨ cl.slots.size ≤ j.toNatClampNeg)) (g : n0 ≤ a) (hp : pc + 1 = pc') (kt : ∀ h', Wr h h' a j.toNatClampNeg (.int (nar .boolean x)) → Go l Z R y bs ml ret n0 Q h' k n pc' L St) : Go l Z R y bs ml ret n0 Q h k n pc L (.int x :: .int j :: .ref a :: St) := by
  subst hp
  intro p e s m args below meth c T locs C X N eT
  obtain ⟨T', h', X', e', W', st⟩ := Jvm.RoadKit.stZ X C.1 C.2.2.2.2.2.2.2 eT A hj (g := mkF m pc L (.int x :: .int j :: .ref a :: St)) rfl rfl (hb C.2.1 hd)
  exact (kt h' W' p e s m args below meth c T' _ C X' (Fr.snoc X' N g) e').thru st
theorem stR {a : Addr} {cl : Cell} {ty : FieldType} {j : Int32} {v : Value} (hd : decode bs pc = .ok (.aastore, 1)) (A : Arr Z h a cl ty) (hj : ¬ (j < 0 ∨ cl.slots.size ≤ j.toNatClampNeg)) (hty : ty.isReference = true) (F : Sto Z h a v) (g : n0 ≤ a) (hp : pc + 1 = pc') (kt : ∀ h', Wr h h' a j.toNatClampNeg v → Go l Z R y bs ml ret n0 Q h' k n pc' L St) : Go l Z R y bs ml ret n0 Q h k n pc L (v :: .int j :: .ref a :: St) := by
  subst hp
  intro p e s m args below meth c T locs C X N eT
  obtain ⟨T', h', X', e', W', st⟩ := Jvm.RoadKit.stR X C.1 C.2.2.2.2.2.2.2 eT A hj hty F (g := mkF m pc L (v :: .int j :: .ref a :: St)) rfl rfl (hb C.2.1 hd)
  exact (kt h' W' p e s m args below meth c T' _ C X' (Fr.snoc X' N g) e').thru st
theorem iaload {a : Addr} {cl : Cell} {j : Int32} {v : Value} (hd : decode bs pc = .ok (.iaload, 1)) (A : Arr Z h a cl .int) (hj : ¬ (j < 0 ∨ cl.slots.size ≤ j.toNatClampNeg)) (hv : cl.slots[j.toNatClampNeg]? = some v) (hp : pc + 1 = pc') (kt : Go l Z R y bs ml ret n0 Q h k n pc' L (v :: St)) : Go l Z R y bs ml ret n0 Q h k n pc L (.int j :: .ref a :: St) := by
  subst hp
  intro p e s m args below meth c T locs C X N eT
  exact (kt p e s m args below meth c T locs C X N eT).thru fun t q => X.iaload C.1 (by rw [eT]; exact A.1) (State.isArrayOf_alike C.2.2.2.2.2.2.2.alike A.2.1) A.2.2 hj hv (g := mkF m pc L (.int j :: .ref a :: St)) rfl rfl (hb C.2.1 hd) _ q
theorem laload {a : Addr} {cl : Cell} {j : Int32} {v : Value} (hd : decode bs pc = .ok (.laload, 1)) (A : Arr Z h a cl .long) (hj : ¬ (j < 0 ∨ cl.slots.size ≤ j.toNatClampNeg)) (hv : cl.slots[j.toNatClampNeg]? = some v) (hp : pc + 1 = pc') (kt : Go l Z R y bs ml ret n0 Q h k n pc' L (v :: St)) : Go l Z R y bs ml ret n0 Q h k n pc L (.int j :: .ref a :: St) := by
  subst hp
  intro p e s m args below meth c T locs C X N eT
  exact (kt p e s m args below meth c T locs C X N eT).thru fun t q => X.laload C.1 (by rw [eT]; exact A.1) (State.isArrayOf_alike C.2.2.2.2.2.2.2.alike A.2.1) A.2.2 hj hv (g := mkF m pc L (.int j :: .ref a :: St)) rfl rfl (hb C.2.1 hd) _ q
theorem caload {a : Addr} {cl : Cell} {j : Int32} {v : Value} (hd : decode bs pc = .ok (.caload, 1)) (A : Arr Z h a cl .char) (hj : ¬ (j < 0 ∨ cl.slots.size ≤ j.toNatClampNeg)) (hv : cl.slots[j.toNatClampNeg]? = some v) (hp : pc + 1 = pc') (kt : Go l Z R y bs ml ret n0 Q h k n pc' L (v :: St)) : Go l Z R y bs ml ret n0 Q h k n pc L (.int j :: .ref a :: St) := by
  subst hp
  intro p e s m args below meth c T locs C X N eT
  exact (kt p e s m args below meth c T locs C X N eT).thru fun t q => X.caload C.1 (by rw [eT]; exact A.1) (State.isArrayOf_alike C.2.2.2.2.2.2.2.alike A.2.1) A.2.2 hj hv (g := mkF m pc L (.int j :: .ref a :: St)) rfl rfl (hb C.2.1 hd) _ q
theorem baload {a : Addr} {cl : Cell} {j : Int32} {v : Value} (hd : decode bs pc = .ok (.baload, 1)) (A : Arr Z h a cl .byte) (hj : ¬ (j < 0 ∨ cl.slots.size ≤ j.toNatClampNeg)) (hv : cl.slots[j.toNatClampNeg]? = some v) (hp : pc + 1 = pc') (kt : Go l Z R y bs ml ret n0 Q h k n pc' L (v :: St)) : Go l Z R y bs ml ret n0 Q h k n pc L (.int j :: .ref a :: St) := by
  subst hp
  intro p e s m args below meth c T locs C X N eT
  exact (kt p e s m args below meth c T locs C X N eT).thru fun t q => X.baloadBytes C.1 (by rw [eT]; exact A.1) (State.isArrayOf_alike C.2.2.2.2.2.2.2.alike A.2.1) A.2.2 hj hv (g := mkF m pc L (.int j :: .ref a :: St)) rfl rfl (hb C.2.1 hd) _ q
theorem aaload {a : Addr} {cl : Cell} {ty : FieldType} {j : Int32} {v : Value} (hd : decode bs pc = .ok (.aaload, 1)) (A : Arr Z h a cl ty) (hty : ty.isReference = true) (hj : ¬ (j < 0 ∨ cl.slots.size ≤ j.toNatClampNeg)) (hv : cl.slots[j.toNatClampNeg]? = some v) (hp : pc + 1 = pc') (kt : Go l Z R y bs ml ret n0 Q h k n pc' L (v :: St)) : Go l Z R y bs ml ret n0 Q h k n pc L (.int j :: .ref a :: St) := by
  subst hp
  intro p e s m args below meth c T locs C X N eT
  exact (kt p e s m args below meth c T locs C X N eT).thru fun t q => X.aaload C.1 (by rw [eT]; exact A.1) (State.isArrayOf_alike C.2.2.2.2.2.2.2.alike A.2.1) hty A.2.2 hj hv (g := mkF m pc L (.int j :: .ref a :: St)) rfl rfl (hb C.2.1 hd) _ q
theorem alen {a : Addr} {cl : Cell} {ty : FieldType} {x : Int32} (hd : decode bs pc = .ok (.arraylength, 1)) (A : Arr Z h a cl ty) (hx : cl.slots.size.toInt32 = x) (hp : pc + 1 = pc') (kt : Go l Z R y bs ml ret n0 Q h k n pc' L (.int x :: St)) : Go l Z R y bs ml ret n0 Q h k n pc L (.ref a :: St) := by
  subst hp hx
  intro p e s m args below meth c T locs C X N eT
  exact (kt p e s m args below meth c T locs C X N eT).thru fun t q => X.arraylength C.1 (by rw [eT]; exact A.1) (State.isArrayOf_alike C.2.2.2.2.2.2.2.alike A.2.1) (g := mkF m pc L (.ref a :: St)) rfl rfl (hb C.2.1 hd) _ q
theorem multi22 {index : Nat} {ty : FieldType} {cn : String} (hd : decode bs pc = .ok (.multianewarray index 2, 4)) (w1 : (Cond.classLink y.cls index cn).before a0 Z = true) (hcn : "[" ++ (FieldType.array ty).toString = cn) (w2 : (Cond.arrayOver (.array ty)).before a0 Z = true) (w3 : (Cond.arrayClass ty).before a0 Z = true) (hcb : componentBytes ty ≤ 8) (hdf : fits ty (defaultValue ty) = true) (hdd : (defaultValue ty).isDefault = true) (ek : k + 3 = k') (en : n + 6 = n') (hc : k' ≤ R.cells) (hl : n' ≤ R.slots) (hp : pc + 4 = pc')
    (kt : ∀ h' cA cI a, a = h.size → h'.size = h.size + 3 → Ext h h' → Arv Z h' a cA (.array ty) (2 : Int32) [.ref (a + 1), .ref (a + 2)] .null → Arv Z h' (a + 1) cI ty (2 : Int32) [defaultValue ty, defaultValue ty] (defaultValue ty) → Arv Z h' (a + 2) cI ty (2 : Int32) [defaultValue ty, defaultValue ty] (defaultValue ty) → Z.vm.findClass (FieldType.array ty).toString = some cI → Go l Z R y bs ml ret n0 Q h' k' n' pc' L (.ref a :: St)) : Go l Z R y bs ml ret n0 Q h k n pc L (.int (2 : Int32) :: .int (2 : Int32) :: St) := by
  subst hp ek en hcn
  intro p e s m args below meth c T locs C X N eT
  have hZ := C.2.2.2.2.2.2.2
  have hc2 : (2 : Int32).toNatClampNeg = 2 := by decide
  obtain ⟨vm₁, cA, cI, hW, hfA, hfC, hO, hI, X', st⟩ := X.multianewarray2F C.1 C.2.2.2.1 (mvT hZ w1) ((Cond.arrayOver_setVmC (args := a0) (s := Z) hZ.alike (.array ty)).trans w2) (mvA hZ w3) (g := mkF m pc L (.int (2 : Int32) :: .int (2 : Int32) :: St)) rfl (hb C.2.1 hd) (n := (2 : Int32)) (k := (2 : Int32)) (rest := St) rfl (by decide) (by decide) (by decide) (by rw [hc2]; omega) (by decide) hdf hdd (by rw [hc2]; omega) (by rw [hc2]; omega)
  rw [hc2] at X' st
  subst eT
  obtain ⟨f1, f2, -, -⟩ := Jvm.Free.Multi.fill_facts (T.setVm vm₁) cA cI 2 2 (defaultValue ty) 2
  obtain ⟨o1, o2, o3⟩ := Jvm.Free.Multi.outerC_facts cA 2 (T.setVm vm₁).heap.size 2
  have hsz : (T.setVm vm₁).heap.size = T.heap.size := rfl
  have al : s.vm.Alike Z.vm := hZ.alike.symm
  have EE : Ext T.heap (Jvm.Free.Multi.fill (T.setVm vm₁) cA cI 2 2 (defaultValue ty) 2).heap := ext_of fun a q => Jvm.Free.Multi.fill_old (T.setVm vm₁) cA cI 2 2 (defaultValue ty) q 2
  have inn : ∀ j, j < 2 → Arv Z (Jvm.Free.Multi.fill (T.setVm vm₁) cA cI 2 2 (defaultValue ty) 2).heap (T.heap.size + 1 + j) cI ty (2 : Int32) [defaultValue ty, defaultValue ty] (defaultValue ty) := fun j hj => by
    have hget := Jvm.Free.Multi.fill_inner (T.setVm vm₁) cA cI 2 2 (defaultValue ty) 2 j hj
    refine ⟨_, ⟨hget, State.isArrayOf_alike al (hI 2 (defaultValue ty)).1, (hI 2 (defaultValue ty)).2⟩, rfl, by simp [Jvm.Free.Multi.innerC, hc2], by decide, fun i hi => ?_, fun i hi => ?_⟩
    · simp only [Jvm.Free.Multi.innerC, Array.size_replicate] at hi ⊢
      match i, hi with
      | 0, _ => rfl
      | 1, _ => rfl
    · simp only [Jvm.Free.Multi.innerC, Array.size_replicate] at hi
      match i, hi with
      | 0, _ => exact hdf
      | 1, _ => exact hdf
  have hZc : Z.vm.findClass (FieldType.array ty).toString = some cI := by rw [← hZ.alike.findClass]; exact hfC
  refine (kt _ cA cI T.heap.size rfl f1 EE ?_ (inn 0 (by decide)) (inn 1 (by decide)) hZc p e s m args below meth c _ _ C X' N rfl).thru st
  refine ⟨_, ⟨f2, State.isArrayOf_alike al (hO 2 _ 2).1, (hO 2 _ 2).2⟩, o1, by rw [o3, hc2], by decide, fun i hi => ?_, fun i hi => ?_⟩
  · rw [o3] at hi
    rw [Jvm.Free.Multi.outerC_slot cA 2 _ 2 i hi, if_pos hi]
    match i, hi with
    | 0, _ => rfl
    | 1, _ => rfl
  · rw [o3] at hi
    match i, hi with
    | 0, _ => rfl
    | 1, _ => rfl
theorem castY {KK : String} {index : Nat} {a : Addr} (hd : decode bs pc = .ok (.checkcast index, 3)) (w : (Cond.classLink y.cls index KK).before a0 Z = true) (F : Ins Z h a KK true) (hp : pc + 3 = pc') (kt : Go l Z R y bs ml ret n0 Q h k n pc' L (.ref a :: St)) : Go l Z R y bs ml ret n0 Q h k n pc L (.ref a :: St) := by
  subst hp
  intro p e s m args below meth c T locs C X N eT
  obtain ⟨T', X', e', st⟩ := Jvm.RoadKit.castY X C.1 C.2.2.2.2.2.2.2 C.2.2.2.1 w eT F (g := mkF m pc L (.ref a :: St)) rfl rfl (hb C.2.1 hd)
  exact (kt p e s m args below meth c T' locs C X' N e').thru st
theorem instY {KK : String} {index : Nat} {a : Addr} (hd : decode bs pc = .ok (.instanceof index, 3)) (w : (Cond.classLink y.cls index KK).before a0 Z = true) (F : Ins Z h a KK true) (hp : pc + 3 = pc') (kt : Go l Z R y bs ml ret n0 Q h k n pc' L (.int 1 :: St)) : Go l Z R y bs ml ret n0 Q h k n pc L (.ref a :: St) := by
  subst hp
  intro p e s m args below meth c T locs C X N eT
  obtain ⟨T', X', e', st⟩ := Jvm.RoadKit.instY X C.1 C.2.2.2.2.2.2.2 C.2.2.2.1 w eT F (g := mkF m pc L (.ref a :: St)) rfl rfl (hb C.2.1 hd)
  exact (kt p e s m args below meth c T' locs C X' N e').thru st
theorem instNo {KK CC : String} {index : Nat} {a : Addr} (hd : decode bs pc = .ok (.instanceof index, 3)) (w : (Cond.classLink y.cls index KK).before a0 Z = true) (E : Exa Z h a CC) (F : ∃ c t, Z.vm.findClass CC = some c ∧ Z.vm.findClass KK = some t ∧ Z.vm.assignable c t = false) (hp : pc + 3 = pc') (kt : Go l Z R y bs ml ret n0 Q h k n pc' L (.int 0 :: St)) : Go l Z R y bs ml ret n0 Q h k n pc L (.ref a :: St) := by
  subst hp
  intro p e s m args below meth c T locs C X N eT
  obtain ⟨T', X', e', st⟩ := Jvm.RoadKit.instNo X C.1 C.2.2.2.2.2.2.2 C.2.2.2.1 w eT E F (g := mkF m pc L (.ref a :: St)) rfl rfl (hb C.2.1 hd)
  exact (kt p e s m args below meth c T' locs C X' N e').thru st
theorem instNull {index : Nat} (hd : decode bs pc = .ok (.instanceof index, 3)) (hp : pc + 3 = pc') (kt : Go l Z R y bs ml ret n0 Q h k n pc' L (.int 0 :: St)) : Go l Z R y bs ml ret n0 Q h k n pc L (.null :: St) := by
  subst hp
  intro p e s m args below meth c T locs C X N eT
  exact (kt p e s m args below meth c T locs C X N eT).thru (X.instanceofNull C.1 (g := mkF m pc L (.null :: St)) rfl rfl (hb C.2.1 hd))
theorem castNull {index : Nat} (hd : decode bs pc = .ok (.checkcast index, 3)) (hp : pc + 3 = pc') (kt : Go l Z R y bs ml ret n0 Q h k n pc' L (.null :: St)) : Go l Z R y bs ml ret n0 Q h k n pc L (.null :: St) := by
  subst hp
  intro p e s m args below meth c T locs C X N eT
  exact (kt p e s m args below meth c T locs C X N eT).thru (X.checkcastNull C.1 (g := mkF m pc L (.null :: St)) rfl rfl (hb C.2.1 hd))
theorem initO {index : Nat} {a : Addr} {W : Nat} (hd : decode bs pc = .ok (.invokespecial index, 3)) (w1 : (Cond.methodLink y.cls index Lib.objectInit).before a0 Z = true) (w2 : (Cond.instanceMethod Lib.objectInit).before a0 Z = true) (w3 : (Cond.code Lib.objectInit ⟨#[0xb1]⟩ 1 none).before a0 Z = true) (hsz : L.size = ml) (hf : 1 ≤ R.frames) (hW : (St.map fun v => v.category).sum ≤ W) (hl : W + 12 ≤ R.locals) (hp : pc + 3 = pc') (kt : Go l Z R y bs ml ret n0 Q h k n pc' L St) : Go l Z R y bs ml ret n0 Q h k n pc L (.ref a :: St) := by
  subst hp
  intro p e s m args below meth c T locs C X N eT
  obtain ⟨T', X', e', st⟩ := Jvm.RoadKit.initO X C.1 C.2.2.2.2.2.2.2 C.2.2.2.1 w1 w2 w3 eT (g := mkF m pc L (.ref a :: St)) rfl (by rw [C.2.2.1]; exact hsz) rfl (hb C.2.1 hd) hf (W := W) (by show 2 * 0 + _ ≤ _; omega) hl
  exact (kt p e s m args below meth c T' locs C X' N e').thru st
theorem callS {z : MethodName} {bz : ByteArray} {mz : Nat} {rz : Option FieldType} {rm : Room} {as' : Array Value} {Q' : Option Value → Heap → Prop} {W : Nat} {argsL rest : List Value} {ps : List FieldType} {rt : Option FieldType} {index : Nat} (hd : decode bs pc = .ok (.invokestatic index, 3)) (w1 : (Cond.methodLink y.cls index z).before a0 Z = true) (w2 : (Cond.static z).before a0 Z = true) (w3 : (Cond.initialized z.cls).before a0 Z = true) (w4 : (Cond.code z bz mz rz).before a0 Z = true) (hy : z.cls ≠ "java/lang/invoke/MethodHandle" ∧ z.cls ≠ "java/lang/invoke/VarHandle")
    (con : Con l Z rm z bz mz rz n0 as' h Q') (hf : rm.frames + 1 ≤ R.frames) (hl : W + (mz + 11) + rm.locals ≤ R.locals) (ek : k + rm.cells = k') (en : n + rm.slots = n') (hc : k' ≤ R.cells) (hn : n' ≤ R.slots) (hsz : L.size = ml) (pd : parseMethodDescriptor z.desc = some ⟨ps, rt⟩) (hlen : argsL.length = ps.length) (hst : St = argsL.reverse ++ rest) (has : as' = argsL.toArray) (hW : (rest.map fun v => v.category).sum ≤ W) (hp : pc + 3 = pc')
    (kt : ∀ h' v, Q' v h' → Go l Z R y bs ml ret n0 Q h' k' n' pc' L (v.toList ++ rest)) : Go l Z R y bs ml ret n0 Q h k n pc L St := by
  subst hp has ek en
  intro p e s m args below meth c T locs C X N eT
  have hZ := C.2.2.2.2.2.2.2
  obtain ⟨v, _, ⟨T', Lp, kp, np⟩, -, X', ⟨Lc, ⟨hQ, N'⟩, e1, e2, e3⟩, st⟩ := Jvm.LawKit.callS X C.1 (y := z) C.2.2.2.1 (mvT hZ w1) (mvT hZ w2) (mvT hZ w3) (mvT hZ w4) hy (backOf (W := W) (Q := fun v h' L => Q' v h' ∧ Fr n0 L) (con []) hZ w4 w3 hf hl) (g := mkF m pc L St) rfl (by rw [C.2.2.1]; exact hsz) (argsL := argsL) (rest := rest) (lenOf pd hlen) hst (by show 2 * 0 + _ ≤ _; omega) (hb C.2.1 hd) (fun _ _ => ⟨rfl, eT, hc, hn⟩)
  dsimp only [Pt.U, Pt.locs, Pt.cells, Pt.slots] at X' e1 e2 e3 st hQ
  subst e1 e2 e3
  exact (kt T'.heap v hQ p e s m args below meth c T' _ C X' (Fr.app N N') rfl).thru st
theorem callI {z : MethodName} {bz : ByteArray} {mz : Nat} {rm : Room} {as' : Array Value} {Q' : Option Value → Heap → Prop} {W : Nat} {argsL rest : List Value} {ps : List FieldType} {rt : Option FieldType} {index : Nat} {a : Addr} (hd : decode bs pc = .ok (.invokespecial index, 3)) (hi : z.name = "<init>") (w1 : (Cond.methodLink y.cls index z).before a0 Z = true) (w2 : (Cond.instanceMethod z).before a0 Z = true) (w3 : (Cond.initialized z.cls).before a0 Z = true) (w4 : (Cond.code z bz mz none).before a0 Z = true) (hy : z.cls ≠ "java/lang/invoke/MethodHandle" ∧ z.cls ≠ "java/lang/invoke/VarHandle")
    (con : Con l Z rm z bz mz none n0 as' h Q') (hf : rm.frames + 1 ≤ R.frames) (hl : W + (mz + 11) + rm.locals ≤ R.locals) (ek : k + rm.cells = k') (en : n + rm.slots = n') (hc : k' ≤ R.cells) (hn : n' ≤ R.slots) (hsz : L.size = ml) (pd : parseMethodDescriptor z.desc = some ⟨ps, rt⟩) (hlen : argsL.length = ps.length) (hst : St = argsL.reverse ++ .ref a :: rest) (has : as' = (.ref a :: argsL).toArray) (hW : (rest.map fun v => v.category).sum ≤ W) (hp : pc + 3 = pc')
    (kt : ∀ h' v, Q' v h' → Go l Z R y bs ml ret n0 Q h' k' n' pc' L (v.toList ++ rest)) : Go l Z R y bs ml ret n0 Q h k n pc L St := by
  subst hp has ek en
  intro p e s m args below meth c T locs C X N eT
  have hZ := C.2.2.2.2.2.2.2
  obtain ⟨v, _, ⟨T', Lp, kp, np⟩, -, X', ⟨Lc, ⟨hQ, N'⟩, e1, e2, e3⟩, st⟩ := X.specialBack C.1 (y := z) hi C.2.2.2.1 (mvT hZ w1) (mvT hZ w2) (mvT hZ w4) hy (backOf (W := W) (Q := fun v h' L => Q' v h' ∧ Fr n0 L) (con []) hZ w4 w3 hf hl) (g := mkF m pc L St) rfl (by rw [C.2.2.1]; exact hsz) (Steps.refl _) (a := a) (argsL := argsL) (rest := rest) (lenOf pd hlen) hst (by show 2 * 0 + _ ≤ _; omega) (hb C.2.1 hd) (fun _ _ => ⟨rfl, eT, hc, hn⟩)
  dsimp only [Pt.U, Pt.locs, Pt.cells, Pt.slots] at X' e1 e2 e3 st hQ
  subst e1 e2 e3
  exact (kt T'.heap v hQ p e s m args below meth c T' _ C X' (Fr.app N N') rfl).thru fun t q => st.trans q
theorem callV {z : MethodName} {bz : ByteArray} {mz : Nat} {rz : Option FieldType} {rm : Room} {as' : Array Value} {Q' : Option Value → Heap → Prop} {W : Nat} {argsL rest : List Value} {ps : List FieldType} {rt : Option FieldType} {index : Nat} {CC : String} {a : Addr} (hd : decode bs pc = .ok (.invokevirtual index, 3)) (w1 : (Cond.methodLink y.cls index z).before a0 Z = true) (w2 : (Cond.declares z).before a0 Z = true) (ws : (Cond.selects CC z z).before a0 Z = true) (wi : (Cond.instanceMethod z).before a0 Z = true) (w3 : (Cond.initialized z.cls).before a0 Z = true) (w4 : (Cond.code z bz mz rz).before a0 Z = true) (hy : z.cls ≠ "java/lang/invoke/MethodHandle" ∧ z.cls ≠ "java/lang/invoke/VarHandle") (E : Exa Z h a CC)
    (con : Con l Z rm z bz mz rz n0 as' h Q') (hf : rm.frames + 1 ≤ R.frames) (hl : W + (mz + 11) + rm.locals ≤ R.locals) (ek : k + rm.cells = k') (en : n + rm.slots = n') (hc : k' ≤ R.cells) (hn : n' ≤ R.slots) (hsz : L.size = ml) (pd : parseMethodDescriptor z.desc = some ⟨ps, rt⟩) (hlen : argsL.length = ps.length) (hst : St = argsL.reverse ++ .ref a :: rest) (has : as' = (.ref a :: argsL).toArray) (hW : (rest.map fun v => v.category).sum ≤ W) (hp : pc + 3 = pc')
    (kt : ∀ h' v, Q' v h' → Go l Z R y bs ml ret n0 Q h' k' n' pc' L (v.toList ++ rest)) : Go l Z R y bs ml ret n0 Q h k n pc L St := by
  subst hp has ek en
  intro p e s m args below meth c T locs C X N eT
  have hZ := C.2.2.2.2.2.2.2
  obtain ⟨cq, kq, qa, qb, qc⟩ := isOf hZ eT E
  obtain ⟨v, _, ⟨T', Lp, kp, np⟩, -, X', ⟨Lc, ⟨hQ, N'⟩, e1, e2, e3⟩, st⟩ := X.virtualBack C.1 (y := z) (z := z) C.2.2.2.1 (mvT hZ w1) (mvT hZ w2) (notFace_of_selects (args := #[]) (mvT hZ ws)) (mvT hZ ws) (mvT hZ wi) hy (backOf (W := W) (Q := fun v h' L => Q' v h' ∧ Fr n0 L) (con []) hZ w4 w3 hf hl) qa qc (g := mkF m pc L St) rfl (by rw [C.2.2.1]; exact hsz) (Steps.refl _) (argsL := argsL) (rest := rest) (lenOf pd hlen) hst (by show 2 * 0 + _ ≤ _; omega) (hb C.2.1 hd) (fun _ _ => ⟨rfl, eT, hc, hn⟩)
  dsimp only [Pt.U, Pt.locs, Pt.cells, Pt.slots] at X' e1 e2 e3 st hQ
  subst e1 e2 e3
  exact (kt T'.heap v hQ p e s m args below meth c T' _ C X' (Fr.app N N') rfl).thru fun t q => st.trans q
theorem callVF {z : MethodName} {bz : ByteArray} {mz : Nat} {rz : Option FieldType} {rm : Room} {as' : Array Value} {Q' : Option Value → Heap → Prop} {W : Nat} {argsL rest : List Value} {ps : List FieldType} {rt : Option FieldType} {index cnt : Nat} {x' : MethodName} {CC : String} {a : Addr} (hd : decode bs pc = .ok (.invokeinterface index cnt, 5)) (w1 : (Cond.methodLink y.cls index x').before a0 Z = true) (w2 : (Cond.declares x').before a0 Z = true) (wf : (Cond.interfaceMethod x'.cls x'.cls x'.name x'.desc).before a0 Z = true) (ws : (Cond.selects CC x' z).before a0 Z = true) (wi : (Cond.instanceMethod z).before a0 Z = true) (wp : (Cond.publicMethod z).before a0 Z = true) (wu : (Cond.unhidden CC x'.name x'.desc).before a0 Z = true) (wc : (Cond.castable CC x'.cls).before a0 Z = true) (w3 : (Cond.initialized z.cls).before a0 Z = true) (w4 : (Cond.code z bz mz rz).before a0 Z = true) (hy : x'.cls ≠ "java/lang/invoke/MethodHandle" ∧ x'.cls ≠ "java/lang/invoke/VarHandle") (E : Exa Z h a CC)
    (con : Con l Z rm z bz mz rz n0 as' h Q') (hf : rm.frames + 1 ≤ R.frames) (hl : W + (mz + 11) + rm.locals ≤ R.locals) (ek : k + rm.cells = k') (en : n + rm.slots = n') (hc : k' ≤ R.cells) (hn : n' ≤ R.slots) (hsz : L.size = ml) (pd : parseMethodDescriptor x'.desc = some ⟨ps, rt⟩) (hlen : argsL.length = ps.length) (hst : St = argsL.reverse ++ .ref a :: rest) (has : as' = (.ref a :: argsL).toArray) (hW : (rest.map fun v => v.category).sum ≤ W) (hp : pc + 5 = pc')
    (kt : ∀ h' v, Q' v h' → Go l Z R y bs ml ret n0 Q h' k' n' pc' L (v.toList ++ rest)) : Go l Z R y bs ml ret n0 Q h k n pc L St := by
  subst hp has ek en
  intro p e s m args below meth c T locs C X N eT
  have hZ := C.2.2.2.2.2.2.2
  obtain ⟨cq, kq, qa, qb, qc⟩ := isOf hZ eT E
  obtain ⟨v, _, ⟨T', Lp, kp, np⟩, -, X', ⟨Lc, ⟨hQ, N'⟩, e1, e2, e3⟩, st⟩ := X.interfaceBack C.1 (xi := x') (y := z) C.2.2.2.1 (mvT hZ w1) (mvT hZ w2) (mvT hZ wf (by have g1 := hy.1; have g2 := hy.2; simp [Cond.onTables, Cond.keepsFace, Cond.keeps, Cond.steady, Cond.faceAtom, g1, g2])) (mvT hZ ws) (mvT hZ wi) (mvT hZ wp) (mvT hZ wu) (mvT hZ wc) hy (backOf (W := W) (Q := fun v h' L => Q' v h' ∧ Fr n0 L) (con []) hZ w4 w3 hf hl) qa qb qc (g := mkF m pc L St) rfl (by rw [C.2.2.1]; exact hsz) (Steps.refl _) (argsL := argsL) (rest := rest) (lenOf pd hlen) hst (by show 2 * 0 + _ ≤ _; omega) (hb C.2.1 hd) (fun _ _ => ⟨rfl, eT, hc, hn⟩)
  dsimp only [Pt.U, Pt.locs, Pt.cells, Pt.slots] at X' e1 e2 e3 st hQ
  subst e1 e2 e3
  exact (kt T'.heap v hQ p e s m args below meth c T' _ C X' (Fr.app N N') rfl).thru fun t q => st.trans q
theorem callP {z : MethodName} {bz : ByteArray} {mz : Nat} {rz : Option FieldType} {rm : Room} {as' : Array Value} {Q' : Option Value → Heap → Prop} {W : Nat} {argsL rest : List Value} {ps : List FieldType} {rt : Option FieldType} {index : Nat} {a : Addr} {CC : String} (hd : decode bs pc = .ok (.invokevirtual index, 3)) (w1 : (Cond.methodLink y.cls index z).before a0 Z = true) (wi : (Cond.instanceMethod z).before a0 Z = true) {nn : Nat} (win : (Cond.instantiable z.cls nn).before a0 Z = true) (wp : (Cond.privateMethod z).before a0 Z = true) (w3 : (Cond.initialized z.cls).before a0 Z = true) (w4 : (Cond.code z bz mz rz).before a0 Z = true) (hy : z.cls ≠ "java/lang/invoke/MethodHandle" ∧ z.cls ≠ "java/lang/invoke/VarHandle") (E : Exa Z h a CC)
    (con : Con l Z rm z bz mz rz n0 as' h Q') (hf : rm.frames + 1 ≤ R.frames) (hl : W + (mz + 11) + rm.locals ≤ R.locals) (ek : k + rm.cells = k') (en : n + rm.slots = n') (hc : k' ≤ R.cells) (hn : n' ≤ R.slots) (hsz : L.size = ml) (pd : parseMethodDescriptor z.desc = some ⟨ps, rt⟩) (hlen : argsL.length = ps.length) (hst : St = argsL.reverse ++ .ref a :: rest) (has : as' = (.ref a :: argsL).toArray) (hW : (rest.map fun v => v.category).sum ≤ W) (hp : pc + 3 = pc')
    (kt : ∀ h' v, Q' v h' → Go l Z R y bs ml ret n0 Q h' k' n' pc' L (v.toList ++ rest)) : Go l Z R y bs ml ret n0 Q h k n pc L St := by
  subst hp has ek en
  intro p e s m args below meth c T locs C X N eT
  have hZ := C.2.2.2.2.2.2.2
  have ws : (Cond.selects z.cls z z).before a0 Z = true := by
    obtain ⟨t, kt, g1, g2, g3, g4, -, -⟩ := Cond.instantiable_spec win
    exact selects_self_of_private g1 g2 (Bool.or_eq_false_iff.mp g4).1 (Cond.privateMethod_at wp) wi hy
  obtain ⟨cq, qa, qb⟩ := E.cell
  obtain ⟨v, _, ⟨T', Lp, kp, np⟩, -, X', ⟨Lc, ⟨hQ, N'⟩, e1, e2, e3⟩, st⟩ := X.privateBack C.1 (y := z) C.2.2.2.1 (mvT hZ w1) (mvT hZ wi) (mvT hZ ws) (Cond.privateMethod_at (mvP hZ wp (args := #[]))) (mvT hZ w4) hy (backOf (W := W) (Q := fun v h' L => Q' v h' ∧ Fr n0 L) (con []) hZ w4 w3 hf hl) (g := mkF m pc L St) rfl (by rw [C.2.2.1]; exact hsz) (Steps.refl _) (a := a) (by rw [eT]; exact qa) qb (argsL := argsL) (rest := rest) (lenOf pd hlen) hst (by show 2 * 0 + _ ≤ _; omega) (hb C.2.1 hd) (fun _ _ => ⟨rfl, eT, hc, hn⟩)
  dsimp only [Pt.U, Pt.locs, Pt.cells, Pt.slots] at X' e1 e2 e3 st hQ
  subst e1 e2 e3
  exact (kt T'.heap v hQ p e s m args below meth c T' _ C X' (Fr.app N N') rfl).thru fun t q => st.trans q
theorem callS0 {z : MethodName} {bz : ByteArray} {mz : Nat} {rz : Option FieldType} {rm : Room} {as' : Array Value} {r : Option Value} {St' : List Value} {W : Nat} {argsL rest : List Value} {ps : List FieldType} {rt : Option FieldType} {index : Nat} (hd : decode bs pc = .ok (.invokestatic index, 3)) (w1 : (Cond.methodLink y.cls index z).before a0 Z = true) (w2 : (Cond.static z).before a0 Z = true) (w3 : (Cond.initialized z.cls).before a0 Z = true) (w4 : (Cond.code z bz mz rz).before a0 Z = true) (hy : z.cls ≠ "java/lang/invoke/MethodHandle" ∧ z.cls ≠ "java/lang/invoke/VarHandle")
    (con : Con l Z rm z bz mz rz n0 as' h (Ret r h)) (hf : rm.frames + 1 ≤ R.frames) (hl : W + (mz + 11) + rm.locals ≤ R.locals) (ek : k + rm.cells = k') (en : n + rm.slots = n') (hc : k' ≤ R.cells) (hn : n' ≤ R.slots) (hsz : L.size = ml) (pd : parseMethodDescriptor z.desc = some ⟨ps, rt⟩) (hlen : argsL.length = ps.length) (hst : St = argsL.reverse ++ rest) (has : as' = argsL.toArray) (hW : (rest.map fun v => v.category).sum ≤ W) (hs : r.toList ++ rest = St') (hp : pc + 3 = pc')
    (kt : Go l Z R y bs ml ret n0 Q h k' n' pc' L St') : Go l Z R y bs ml ret n0 Q h k n pc L St := by
  subst hs
  refine callS hd w1 w2 w3 w4 hy con hf hl ek en hc hn hsz pd hlen hst has hW hp ?_
  rintro h' v ⟨rfl, rfl⟩
  exact kt
theorem callI0 {z : MethodName} {bz : ByteArray} {mz : Nat} {rm : Room} {as' : Array Value} {r : Option Value} {St' : List Value} {W : Nat} {argsL rest : List Value} {ps : List FieldType} {rt : Option FieldType} {index : Nat} {a : Addr} (hd : decode bs pc = .ok (.invokespecial index, 3)) (hi : z.name = "<init>") (w1 : (Cond.methodLink y.cls index z).before a0 Z = true) (w2 : (Cond.instanceMethod z).before a0 Z = true) (w3 : (Cond.initialized z.cls).before a0 Z = true) (w4 : (Cond.code z bz mz none).before a0 Z = true) (hy : z.cls ≠ "java/lang/invoke/MethodHandle" ∧ z.cls ≠ "java/lang/invoke/VarHandle")
    (con : Con l Z rm z bz mz none n0 as' h (Ret r h)) (hf : rm.frames + 1 ≤ R.frames) (hl : W + (mz + 11) + rm.locals ≤ R.locals) (ek : k + rm.cells = k') (en : n + rm.slots = n') (hc : k' ≤ R.cells) (hn : n' ≤ R.slots) (hsz : L.size = ml) (pd : parseMethodDescriptor z.desc = some ⟨ps, rt⟩) (hlen : argsL.length = ps.length) (hst : St = argsL.reverse ++ .ref a :: rest) (has : as' = (.ref a :: argsL).toArray) (hW : (rest.map fun v => v.category).sum ≤ W) (hs : r.toList ++ rest = St') (hp : pc + 3 = pc')
    (kt : Go l Z R y bs ml ret n0 Q h k' n' pc' L St') : Go l Z R y bs ml ret n0 Q h k n pc L St := by
  subst hs
  refine callI hd hi w1 w2 w3 w4 hy con hf hl ek en hc hn hsz pd hlen hst has hW hp ?_
  rintro h' v ⟨rfl, rfl⟩
  exact kt
theorem callV0 {z : MethodName} {bz : ByteArray} {mz : Nat} {rz : Option FieldType} {rm : Room} {as' : Array Value} {r : Option Value} {St' : List Value} {W : Nat} {argsL rest : List Value} {ps : List FieldType} {rt : Option FieldType} {index : Nat} {CC : String} {a : Addr} (hd : decode bs pc = .ok (.invokevirtual index, 3)) (w1 : (Cond.methodLink y.cls index z).before a0 Z = true) (w2 : (Cond.declares z).before a0 Z = true) (ws : (Cond.selects CC z z).before a0 Z = true) (wi : (Cond.instanceMethod z).before a0 Z = true) (w3 : (Cond.initialized z.cls).before a0 Z = true) (w4 : (Cond.code z bz mz rz).before a0 Z = true) (hy : z.cls ≠ "java/lang/invoke/MethodHandle" ∧ z.cls ≠ "java/lang/invoke/VarHandle") (E : Exa Z h a CC)
    (con : Con l Z rm z bz mz rz n0 as' h (Ret r h)) (hf : rm.frames + 1 ≤ R.frames) (hl : W + (mz + 11) + rm.locals ≤ R.locals) (ek : k + rm.cells = k') (en : n + rm.slots = n') (hc : k' ≤ R.cells) (hn : n' ≤ R.slots) (hsz : L.size = ml) (pd : parseMethodDescriptor z.desc = some ⟨ps, rt⟩) (hlen : argsL.length = ps.length) (hst : St = argsL.reverse ++ .ref a :: rest) (has : as' = (.ref a :: argsL).toArray) (hW : (rest.map fun v => v.category).sum ≤ W) (hs : r.toList ++ rest = St') (hp : pc + 3 = pc')
    (kt : Go l Z R y bs ml ret n0 Q h k' n' pc' L St') : Go l Z R y bs ml ret n0 Q h k n pc L St := by
  subst hs
  refine callV hd w1 w2 ws wi w3 w4 hy E con hf hl ek en hc hn hsz pd hlen hst has hW hp ?_
  rintro h' v ⟨rfl, rfl⟩
  exact kt
theorem callVF0 {z : MethodName} {bz : ByteArray} {mz : Nat} {rz : Option FieldType} {rm : Room} {as' : Array Value} {r : Option Value} {St' : List Value} {W : Nat} {argsL rest : List Value} {ps : List FieldType} {rt : Option FieldType} {index cnt : Nat} {x' : MethodName} {CC : String} {a : Addr} (hd : decode bs pc = .ok (.invokeinterface index cnt, 5)) (w1 : (Cond.methodLink y.cls index x').before a0 Z = true) (w2 : (Cond.declares x').before a0 Z = true) (wf : (Cond.interfaceMethod x'.cls x'.cls x'.name x'.desc).before a0 Z = true) (ws : (Cond.selects CC x' z).before a0 Z = true) (wi : (Cond.instanceMethod z).before a0 Z = true) (wp : (Cond.publicMethod z).before a0 Z = true) (wu : (Cond.unhidden CC x'.name x'.desc).before a0 Z = true) (wc : (Cond.castable CC x'.cls).before a0 Z = true) (w3 : (Cond.initialized z.cls).before a0 Z = true) (w4 : (Cond.code z bz mz rz).before a0 Z = true) (hy : x'.cls ≠ "java/lang/invoke/MethodHandle" ∧ x'.cls ≠ "java/lang/invoke/VarHandle") (E : Exa Z h a CC)
    (con : Con l Z rm z bz mz rz n0 as' h (Ret r h)) (hf : rm.frames + 1 ≤ R.frames) (hl : W + (mz + 11) + rm.locals ≤ R.locals) (ek : k + rm.cells = k') (en : n + rm.slots = n') (hc : k' ≤ R.cells) (hn : n' ≤ R.slots) (hsz : L.size = ml) (pd : parseMethodDescriptor x'.desc = some ⟨ps, rt⟩) (hlen : argsL.length = ps.length) (hst : St = argsL.reverse ++ .ref a :: rest) (has : as' = (.ref a :: argsL).toArray) (hW : (rest.map fun v => v.category).sum ≤ W) (hs : r.toList ++ rest = St') (hp : pc + 5 = pc')
    (kt : Go l Z R y bs ml ret n0 Q h k' n' pc' L St') : Go l Z R y bs ml ret n0 Q h k n pc L St := by
  subst hs
  refine callVF hd w1 w2 wf ws wi wp wu wc w3 w4 hy E con hf hl ek en hc hn hsz pd hlen hst has hW hp ?_
  rintro h' v ⟨rfl, rfl⟩
  exact kt
end Laws
end Jvm.OwnW
namespace Jvm.Pilot.@@N@@
open Jvm Jvm.ClassFile Sem Op Lib Jvm.Free Jvm.Stand Jvm.LawKit Jvm.RoadKit Bundle Jvm.OwnW Jvm.Pilot.@@N@@.Jvm.D
theorem pd_28II29I : parseMethodDescriptor "(II)I" = some ⟨[.int, .int], some .int⟩ := by decide +kernel
theorem pd_28BIII29Z : parseMethodDescriptor "(BIII)Z" = some ⟨[.byte, .int, .int, .int], some .boolean⟩ := by decide +kernel
theorem pd_285bBII29Z : parseMethodDescriptor "([BII)Z" = some ⟨[(.array .byte), .int, .int], some .boolean⟩ := by decide +kernel
theorem d1_0 : decode jdk_29_method_69_code 0 = .ok (.iload_n 0, 1) := by decide +kernel
theorem d1_1 : decode jdk_29_method_69_code 1 = .ok (.iload_n 1, 1) := by decide +kernel
theorem d1_2 : decode jdk_29_method_69_code 2 = .ok (.if_icmp .gt 7, 3) := by decide +kernel
theorem d1_5 : decode jdk_29_method_69_code 5 = .ok (.iload_n 0, 1) := by decide +kernel
theorem d1_6 : decode jdk_29_method_69_code 6 = .ok (.goto 4, 3) := by decide +kernel
theorem d1_9 : decode jdk_29_method_69_code 9 = .ok (.iload_n 1, 1) := by decide +kernel
theorem d1_10 : decode jdk_29_method_69_code 10 = .ok (.ireturn, 1) := by decide +kernel
def f1 (q0 : Int32) (q1 : Int32) : Int32 := (if q1 < q0 then q1 else q0)
abbrev GoB1 (l : Launch) (Z : State) (n0 : Nat) (Q : Option Value → Heap → Prop) := Go l Z ({ frames := 0, cells := 0, slots := 0, locals := 0 } : Room) (⟨"java/lang/Math", "min", "(II)I"⟩ : MethodName) jdk_29_method_69_code 2 (some .int) n0 Q
theorem ef1 (m : MethodId) (q0 : Int32) (q1 : Int32) : entryFrame m #[(.int q0), (.int q1)] 2 = mkF m 0 #[.val (.int q0), .val (.int q1)] [] := by first | (simp [entryFrame, mkF, argsToLocals, Value.category]; done) | rfl
set_option maxRecDepth 65536 in
set_option maxHeartbeats 40000000 in
theorem rm1 (l : Launch) (Z : State) (a0 : Array Value) (hw : ∀ d ∈ tables_1, d.before a0 Z = true) (q0 : Int32) (q1 : Int32) (h0 : Heap) (n0 : Nat) :
    Con l Z ({ frames := 0, cells := 0, slots := 0, locals := 0 } : Room) (⟨"java/lang/Math", "min", "(II)I"⟩ : MethodName) jdk_29_method_69_code 2 (some .int) n0 #[(.int q0), (.int q1)] h0 (OwnW.Ret (some (.int (f1 q0 q1))) h0) := by
  refine OwnW.Con.of (by first | decide +kernel | exact plainFor_of_name (by simp [plainName, overriddenIn])) (fun m => ef1 m q0 q1) ?_
  show GoB1 l Z n0 (OwnW.Ret (some (.int (f1 q0 q1))) h0) h0 0 0 0 #[.val (.int q0), .val (.int q1)] []
  refine OwnW.iloadN (pc' := 1) d1_0 rfl rfl ?_
  refine OwnW.iloadN (pc' := 2) d1_1 rfl rfl ?_
  by_cases hc2 : q1 < q0
  ·
    refine OwnW.icmpY (pc' := 9) d1_2 (tlt hc2).2.2.1 (by decide) (by decide) ?_
    refine OwnW.iloadN (pc' := 10) d1_9 rfl rfl ?_
    exact OwnW.retI d1_10 rfl (by decide) (by decide) (⟨by first | (simp only [f1, if_pos hc2]; done) | (simp only [f1, if_pos hc2]; rfl), rfl⟩)
  ·
    refine OwnW.icmpN (pc' := 5) d1_2 (flt hc2).2.2.1 rfl ?_
    refine OwnW.iloadN (pc' := 6) d1_5 rfl rfl ?_
    refine OwnW.goto (pc' := 10) d1_6 (by decide) (by decide) ?_
    exact OwnW.retI d1_10 rfl (by decide) (by decide) (⟨by first | (simp only [f1, if_neg hc2]; done) | (simp only [f1, if_neg hc2]; rfl), rfl⟩)
theorem d2_0 : decode jdk_29_method_65_code 0 = .ok (.iload_n 0, 1) := by decide +kernel
theorem d2_1 : decode jdk_29_method_65_code 1 = .ok (.iload_n 1, 1) := by decide +kernel
theorem d2_2 : decode jdk_29_method_65_code 2 = .ok (.if_icmp .lt 7, 3) := by decide +kernel
theorem d2_5 : decode jdk_29_method_65_code 5 = .ok (.iload_n 0, 1) := by decide +kernel
theorem d2_6 : decode jdk_29_method_65_code 6 = .ok (.goto 4, 3) := by decide +kernel
theorem d2_9 : decode jdk_29_method_65_code 9 = .ok (.iload_n 1, 1) := by decide +kernel
theorem d2_10 : decode jdk_29_method_65_code 10 = .ok (.ireturn, 1) := by decide +kernel
def f2 (q0 : Int32) (q1 : Int32) : Int32 := (if q0 < q1 then q1 else q0)
abbrev GoB2 (l : Launch) (Z : State) (n0 : Nat) (Q : Option Value → Heap → Prop) := Go l Z ({ frames := 0, cells := 0, slots := 0, locals := 0 } : Room) (⟨"java/lang/Math", "max", "(II)I"⟩ : MethodName) jdk_29_method_65_code 2 (some .int) n0 Q
theorem ef2 (m : MethodId) (q0 : Int32) (q1 : Int32) : entryFrame m #[(.int q0), (.int q1)] 2 = mkF m 0 #[.val (.int q0), .val (.int q1)] [] := by first | (simp [entryFrame, mkF, argsToLocals, Value.category]; done) | rfl
set_option maxRecDepth 65536 in
set_option maxHeartbeats 40000000 in
theorem rm2 (l : Launch) (Z : State) (a0 : Array Value) (hw : ∀ d ∈ tables_1, d.before a0 Z = true) (q0 : Int32) (q1 : Int32) (h0 : Heap) (n0 : Nat) :
    Con l Z ({ frames := 0, cells := 0, slots := 0, locals := 0 } : Room) (⟨"java/lang/Math", "max", "(II)I"⟩ : MethodName) jdk_29_method_65_code 2 (some .int) n0 #[(.int q0), (.int q1)] h0 (OwnW.Ret (some (.int (f2 q0 q1))) h0) := by
  refine OwnW.Con.of (by first | decide +kernel | exact plainFor_of_name (by simp [plainName, overriddenIn])) (fun m => ef2 m q0 q1) ?_
  show GoB2 l Z n0 (OwnW.Ret (some (.int (f2 q0 q1))) h0) h0 0 0 0 #[.val (.int q0), .val (.int q1)] []
  refine OwnW.iloadN (pc' := 1) d2_0 rfl rfl ?_
  refine OwnW.iloadN (pc' := 2) d2_1 rfl rfl ?_
  by_cases hc2 : q0 < q1
  ·
    refine OwnW.icmpY (pc' := 9) d2_2 (tlt hc2).1 (by decide) (by decide) ?_
    refine OwnW.iloadN (pc' := 10) d2_9 rfl rfl ?_
    exact OwnW.retI d2_10 rfl (by decide) (by decide) (⟨by first | (simp only [f2, if_pos hc2]; done) | (simp only [f2, if_pos hc2]; rfl), rfl⟩)
  ·
    refine OwnW.icmpN (pc' := 5) d2_2 (flt hc2).1 rfl ?_
    refine OwnW.iloadN (pc' := 6) d2_5 rfl rfl ?_
    refine OwnW.goto (pc' := 10) d2_6 (by decide) (by decide) ?_
    exact OwnW.retI d2_10 rfl (by decide) (by decide) (⟨by first | (simp only [f2, if_neg hc2]; done) | (simp only [f2, if_neg hc2]; rfl), rfl⟩)
theorem d3_0 : decode method_3_code 0 = .ok (.iload_n 2, 1) := by decide +kernel
theorem d3_1 : decode method_3_code 1 = .ok (.iload_n 1, 1) := by decide +kernel
theorem d3_2 : decode method_3_code 2 = .ok (.if_icmp .gt 16, 3) := by decide +kernel
theorem d3_5 : decode method_3_code 5 = .ok (.iload_n 1, 1) := by decide +kernel
theorem d3_6 : decode method_3_code 6 = .ok (.iload_n 3, 1) := by decide +kernel
theorem d3_7 : decode method_3_code 7 = .ok (.if_icmp .ge 11, 3) := by decide +kernel
theorem d3_10 : decode method_3_code 10 = .ok (.iload_n 0, 1) := by decide +kernel
theorem d3_11 : decode method_3_code 11 = .ok (.ifCond .ge 7, 3) := by decide +kernel
theorem d3_14 : decode method_3_code 14 = .ok (.iconst 1, 1) := by decide +kernel
theorem d3_15 : decode method_3_code 15 = .ok (.goto 4, 3) := by decide +kernel
theorem d3_18 : decode method_3_code 18 = .ok (.iconst 0, 1) := by decide +kernel
theorem d3_19 : decode method_3_code 19 = .ok (.ireturn, 1) := by decide +kernel
def f3 (q0 : Int32) (q1 : Int32) (q2 : Int32) (q3 : Int32) : Int32 := (if q1 < q2 then (0 : Int32) else (if q1 < q3 then (if q0 < (0 : Int32) then (1 : Int32) else (0 : Int32)) else (0 : Int32)))
abbrev GoB3 (l : Launch) (Z : State) (n0 : Nat) (Q : Option Value → Heap → Prop) := Go l Z ({ frames := 0, cells := 0, slots := 0, locals := 0 } : Room) (⟨"com/example/sieve_for_links/sieveforlinks/AsciiTextHoldsAsciiPinLaw", "bad", "(BIII)Z"⟩ : MethodName) method_3_code 4 (some .boolean) n0 Q
theorem ef3 (m : MethodId) (q0 : Int32) (q1 : Int32) (q2 : Int32) (q3 : Int32) : entryFrame m #[(.int q0), (.int q1), (.int q2), (.int q3)] 4 = mkF m 0 #[.val (.int q0), .val (.int q1), .val (.int q2), .val (.int q3)] [] := by first | (simp [entryFrame, mkF, argsToLocals, Value.category]; done) | rfl
set_option maxRecDepth 65536 in
set_option maxHeartbeats 40000000 in
theorem rm3 (l : Launch) (Z : State) (a0 : Array Value) (hw : ∀ d ∈ tables_1, d.before a0 Z = true) (q0 : Int32) (q1 : Int32) (q2 : Int32) (q3 : Int32) (h0 : Heap) (n0 : Nat) :
    Con l Z ({ frames := 0, cells := 0, slots := 0, locals := 0 } : Room) (⟨"com/example/sieve_for_links/sieveforlinks/AsciiTextHoldsAsciiPinLaw", "bad", "(BIII)Z"⟩ : MethodName) method_3_code 4 (some .boolean) n0 #[(.int q0), (.int q1), (.int q2), (.int q3)] h0 (OwnW.Ret (some (.int (f3 q0 q1 q2 q3))) h0) := by
  refine OwnW.Con.of (by first | decide +kernel | exact plainFor_of_name (by simp [plainName, overriddenIn])) (fun m => ef3 m q0 q1 q2 q3) ?_
  show GoB3 l Z n0 (OwnW.Ret (some (.int (f3 q0 q1 q2 q3))) h0) h0 0 0 0 #[.val (.int q0), .val (.int q1), .val (.int q2), .val (.int q3)] []
  refine OwnW.iloadN (pc' := 1) d3_0 rfl rfl ?_
  refine OwnW.iloadN (pc' := 2) d3_1 rfl rfl ?_
  by_cases hc2 : q1 < q2
  ·
    refine OwnW.icmpY (pc' := 18) d3_2 (tlt hc2).2.2.1 (by decide) (by decide) ?_
    refine OwnW.iconst (pc' := 19) (v := (0 : Int32)) d3_18 rfl rfl ?_
    exact OwnW.retN (t := .boolean) d3_19 rfl (by simp) rfl (by decide) (by decide) (⟨by first | (simp only [f3, if_pos hc2]; done) | (simp only [f3, if_pos hc2]; rfl), rfl⟩)
  ·
    refine OwnW.icmpN (pc' := 5) d3_2 (flt hc2).2.2.1 rfl ?_
    refine OwnW.iloadN (pc' := 6) d3_5 rfl rfl ?_
    refine OwnW.iloadN (pc' := 7) d3_6 rfl rfl ?_
    by_cases hc7 : q1 < q3
    ·
      refine OwnW.icmpN (pc' := 10) d3_7 (tlt hc7).2.1 rfl ?_
      refine OwnW.iloadN (pc' := 11) d3_10 rfl rfl ?_
      by_cases hc11 : q0 < (0 : Int32)
      ·
        refine OwnW.ifcN (pc' := 14) d3_11 ((if0 _ _).trans (tlt hc11).2.1) rfl ?_
        refine OwnW.iconst (pc' := 15) (v := (1 : Int32)) d3_14 rfl rfl ?_
        refine OwnW.goto (pc' := 19) d3_15 (by decide) (by decide) ?_
        exact OwnW.retN (t := .boolean) d3_19 rfl (by simp) rfl (by decide) (by decide) (⟨by first | (simp only [f3, if_neg hc2, if_pos hc7, if_pos hc11]; done) | (simp only [f3, if_neg hc2, if_pos hc7, if_pos hc11]; rfl), rfl⟩)
      ·
        refine OwnW.ifcY (pc' := 18) d3_11 ((if0 _ _).trans (flt hc11).2.1) (by decide) (by decide) ?_
        refine OwnW.iconst (pc' := 19) (v := (0 : Int32)) d3_18 rfl rfl ?_
        exact OwnW.retN (t := .boolean) d3_19 rfl (by simp) rfl (by decide) (by decide) (⟨by first | (simp only [f3, if_neg hc2, if_pos hc7, if_neg hc11]; done) | (simp only [f3, if_neg hc2, if_pos hc7, if_neg hc11]; rfl), rfl⟩)
    ·
      refine OwnW.icmpY (pc' := 18) d3_7 (flt hc7).2.1 (by decide) (by decide) ?_
      refine OwnW.iconst (pc' := 19) (v := (0 : Int32)) d3_18 rfl rfl ?_
      exact OwnW.retN (t := .boolean) d3_19 rfl (by simp) rfl (by decide) (by decide) (⟨by first | (simp only [f3, if_neg hc2, if_neg hc7]; done) | (simp only [f3, if_neg hc2, if_neg hc7]; rfl), rfl⟩)

def own_ha (q0 : Addr) (lo hi : Int32) (kk : ClassId) (b0 b1 b2 b3 : Int32) : Int32 := if f3 b0 0 lo hi = 0 then (if f3 b1 1 lo hi = 0 then (if f3 b2 2 lo hi = 0 then (if f3 b3 3 lo hi = 0 then 1 else 0) else 0) else 0) else 0

theorem d4_0 : decode prog_1_method_3_code 0 = .ok (.iload_n 1, 1) := by decide +kernel
theorem d4_1 : decode prog_1_method_3_code 1 = .ok (.istore_n 3, 1) := by decide +kernel
theorem d4_2 : decode prog_1_method_3_code 2 = .ok (.iload_n 3, 1) := by decide +kernel
theorem d4_3 : decode prog_1_method_3_code 3 = .ok (.iload_n 2, 1) := by decide +kernel
theorem d4_4 : decode prog_1_method_3_code 4 = .ok (.if_icmp .ge 17, 3) := by decide +kernel
theorem d4_7 : decode prog_1_method_3_code 7 = .ok (.aload_n 0, 1) := by decide +kernel
theorem d4_8 : decode prog_1_method_3_code 8 = .ok (.iload_n 3, 1) := by decide +kernel
theorem d4_9 : decode prog_1_method_3_code 9 = .ok (.baload, 1) := by decide +kernel
theorem d4_10 : decode prog_1_method_3_code 10 = .ok (.ifCond .ge 5, 3) := by decide +kernel
theorem d4_13 : decode prog_1_method_3_code 13 = .ok (.iconst 0, 1) := by decide +kernel
theorem d4_14 : decode prog_1_method_3_code 14 = .ok (.ireturn, 1) := by decide +kernel
theorem d4_15 : decode prog_1_method_3_code 15 = .ok (.iinc 3 1, 3) := by decide +kernel
theorem d4_18 : decode prog_1_method_3_code 18 = .ok (.goto (-16), 3) := by decide +kernel
theorem d4_21 : decode prog_1_method_3_code 21 = .ok (.iconst 1, 1) := by decide +kernel
theorem d4_22 : decode prog_1_method_3_code 22 = .ok (.ireturn, 1) := by decide +kernel
abbrev GoB4 (l : Launch) (Z : State) (n0 : Nat) (Q : Option Value → Heap → Prop) := Go l Z ({ frames := 0, cells := 0, slots := 0, locals := 0 } : Room) (⟨"com/example/sieve_for_links/sieveforlinks/AsciiText", "holdsAscii", "([BII)Z"⟩ : MethodName) prog_1_method_3_code 4 (some .boolean) n0 Q
theorem ef4 (m : MethodId) (q0 : Addr) (q1 : Int32) (q2 : Int32) : entryFrame m #[(.ref q0), (.int q1), (.int q2)] 4 = mkF m 0 #[.val (.ref q0), .val (.int q1), .val (.int q2), .unset] [] := by first | (simp [entryFrame, mkF, argsToLocals, Value.category]; done) | rfl
set_option maxRecDepth 65536 in
set_option maxHeartbeats 40000000 in
theorem rm4 (l : Launch) (Z : State) (a0 : Array Value) (hw : ∀ d ∈ tables_1, d.before a0 Z = true) (q0 : Addr) (q1 : Int32) (q2 : Int32) (kk : ClassId) (b0 : Int32) (b1 : Int32) (b2 : Int32) (b3 : Int32) (h0 : Heap) (n0 : Nat) (V_a : Arv Z h0 q0 kk .byte (4 : Int32) [(.int b0), (.int b1), (.int b2), (.int b3)] (.int (0 : Int32))) (hq : (q1 = (0 : Int32) ∧ q2 = (0 : Int32)) ∨ (q1 = (0 : Int32) ∧ q2 = (1 : Int32)) ∨ (q1 = (0 : Int32) ∧ q2 = (2 : Int32)) ∨ (q1 = (0 : Int32) ∧ q2 = (3 : Int32)) ∨ (q1 = (0 : Int32) ∧ q2 = (4 : Int32)) ∨ (q1 = (1 : Int32) ∧ q2 = (1 : Int32)) ∨ (q1 = (1 : Int32) ∧ q2 = (2 : Int32)) ∨ (q1 = (1 : Int32) ∧ q2 = (3 : Int32)) ∨ (q1 = (1 : Int32) ∧ q2 = (4 : Int32)) ∨ (q1 = (2 : Int32) ∧ q2 = (2 : Int32)) ∨ (q1 = (2 : Int32) ∧ q2 = (3 : Int32)) ∨ (q1 = (2 : Int32) ∧ q2 = (4 : Int32)) ∨ (q1 = (3 : Int32) ∧ q2 = (3 : Int32)) ∨ (q1 = (3 : Int32) ∧ q2 = (4 : Int32)) ∨ (q1 = (4 : Int32) ∧ q2 = (4 : Int32))) :
    Con l Z ({ frames := 0, cells := 0, slots := 0, locals := 0 } : Room) (⟨"com/example/sieve_for_links/sieveforlinks/AsciiText", "holdsAscii", "([BII)Z"⟩ : MethodName) prog_1_method_3_code 4 (some .boolean) n0 #[(.ref q0), (.int q1), (.int q2)] h0 (OwnW.Ret (some (.int (own_ha q0 q1 q2 kk b0 b1 b2 b3))) h0) := by
  refine OwnW.Con.of (by first | decide +kernel | exact plainFor_of_name (by simp [plainName, overriddenIn])) (fun m => ef4 m q0 q1 q2) ?_
  show GoB4 l Z n0 (OwnW.Ret (some (.int (own_ha q0 q1 q2 kk b0 b1 b2 b3))) h0) h0 0 0 0 #[.val (.ref q0), .val (.int q1), .val (.int q2), .unset] []
  rcases hq with ⟨rfl, rfl⟩ | ⟨rfl, rfl⟩ | ⟨rfl, rfl⟩ | ⟨rfl, rfl⟩ | ⟨rfl, rfl⟩ | ⟨rfl, rfl⟩ | ⟨rfl, rfl⟩ | ⟨rfl, rfl⟩ | ⟨rfl, rfl⟩ | ⟨rfl, rfl⟩ | ⟨rfl, rfl⟩ | ⟨rfl, rfl⟩ | ⟨rfl, rfl⟩ | ⟨rfl, rfl⟩ | ⟨rfl, rfl⟩
  ·
    show GoB4 l Z n0 _ h0 0 0 0 #[.val (.ref q0), .val (.int (0 : Int32)), .val (.int (0 : Int32)), .unset] []
    refine OwnW.iloadN (pc' := 1) d4_0 rfl rfl ?_
    refine OwnW.istoreN (pc' := 2) (L' := #[.val (.ref q0), .val (.int (0 : Int32)), .val (.int (0 : Int32)), .val (.int (0 : Int32))]) d4_1 rfl rfl ?_
    refine OwnW.iloadN (pc' := 3) d4_2 rfl rfl ?_
    refine OwnW.iloadN (pc' := 4) d4_3 rfl rfl ?_
    refine OwnW.icmpY (pc' := 21) d4_4 (flt (by decide)).2.1 (by decide) (by decide) ?_
    refine OwnW.iconst (pc' := 22) (v := (1 : Int32)) d4_21 rfl rfl ?_
    exact OwnW.retN (t := .boolean) d4_22 rfl (by simp) rfl (by decide) (by decide) (⟨by simp [own_ha, f3] <;> rfl, rfl⟩)
  ·
    show GoB4 l Z n0 _ h0 0 0 0 #[.val (.ref q0), .val (.int (0 : Int32)), .val (.int (1 : Int32)), .unset] []
    refine OwnW.iloadN (pc' := 1) d4_0 rfl rfl ?_
    refine OwnW.istoreN (pc' := 2) (L' := #[.val (.ref q0), .val (.int (0 : Int32)), .val (.int (1 : Int32)), .val (.int (0 : Int32))]) d4_1 rfl rfl ?_
    refine OwnW.iloadN (pc' := 3) d4_2 rfl rfl ?_
    refine OwnW.iloadN (pc' := 4) d4_3 rfl rfl ?_
    refine OwnW.icmpN (pc' := 7) d4_4 (tlt (by decide)).2.1 rfl ?_
    refine OwnW.aloadN (pc' := 8) d4_7 rfl (rfl) rfl ?_
    refine OwnW.iloadN (pc' := 9) d4_8 rfl rfl ?_
    obtain ⟨cl1, Ar1, qk1, Sz1, Mn1, Hv1, Gf1⟩ := id V_a
    refine OwnW.baload (pc' := 10) (v := (.int b0)) d4_9 Ar1 (inb_of Sz1 ⟨by decide, by decide⟩) (Hv1.at (inb_of Sz1 ⟨by decide, by decide⟩) rfl) rfl ?_
    by_cases hc10 : b0 < (0 : Int32)
    ·
      refine OwnW.ifcN (pc' := 13) d4_10 ((if0 _ _).trans (tlt hc10).2.1) rfl ?_
      refine OwnW.iconst (pc' := 14) (v := (0 : Int32)) d4_13 rfl rfl ?_
      exact OwnW.retN (t := .boolean) d4_14 rfl (by simp) rfl (by decide) (by decide) (⟨by simp [own_ha, f3, hc10] <;> rfl, rfl⟩)
    ·
      refine OwnW.ifcY (pc' := 15) d4_10 ((if0 _ _).trans (flt hc10).2.1) (by decide) (by decide) ?_
      refine OwnW.iinc (pc' := 18) (L' := #[.val (.ref q0), .val (.int (0 : Int32)), .val (.int (1 : Int32)), .val (.int (1 : Int32))]) (d := (1 : Int32)) d4_15 rfl rfl rfl rfl ?_
      refine OwnW.goto (pc' := 2) d4_18 (by decide) (by decide) ?_
      refine OwnW.iloadN (pc' := 3) d4_2 rfl rfl ?_
      refine OwnW.iloadN (pc' := 4) d4_3 rfl rfl ?_
      refine OwnW.icmpY (pc' := 21) d4_4 (flt (by decide)).2.1 (by decide) (by decide) ?_
      refine OwnW.iconst (pc' := 22) (v := (1 : Int32)) d4_21 rfl rfl ?_
      exact OwnW.retN (t := .boolean) d4_22 rfl (by simp) rfl (by decide) (by decide) (⟨by simp [own_ha, f3, hc10] <;> rfl, rfl⟩)
  ·
    show GoB4 l Z n0 _ h0 0 0 0 #[.val (.ref q0), .val (.int (0 : Int32)), .val (.int (2 : Int32)), .unset] []
    refine OwnW.iloadN (pc' := 1) d4_0 rfl rfl ?_
    refine OwnW.istoreN (pc' := 2) (L' := #[.val (.ref q0), .val (.int (0 : Int32)), .val (.int (2 : Int32)), .val (.int (0 : Int32))]) d4_1 rfl rfl ?_
    refine OwnW.iloadN (pc' := 3) d4_2 rfl rfl ?_
    refine OwnW.iloadN (pc' := 4) d4_3 rfl rfl ?_
    refine OwnW.icmpN (pc' := 7) d4_4 (tlt (by decide)).2.1 rfl ?_
    refine OwnW.aloadN (pc' := 8) d4_7 rfl (rfl) rfl ?_
    refine OwnW.iloadN (pc' := 9) d4_8 rfl rfl ?_
    obtain ⟨cl2, Ar2, qk2, Sz2, Mn2, Hv2, Gf2⟩ := id V_a
    refine OwnW.baload (pc' := 10) (v := (.int b0)) d4_9 Ar2 (inb_of Sz2 ⟨by decide, by decide⟩) (Hv2.at (inb_of Sz2 ⟨by decide, by decide⟩) rfl) rfl ?_
    by_cases hc10 : b0 < (0 : Int32)
    ·
      refine OwnW.ifcN (pc' := 13) d4_10 ((if0 _ _).trans (tlt hc10).2.1) rfl ?_
      refine OwnW.iconst (pc' := 14) (v := (0 : Int32)) d4_13 rfl rfl ?_
      exact OwnW.retN (t := .boolean) d4_14 rfl (by simp) rfl (by decide) (by decide) (⟨by simp [own_ha, f3, hc10] <;> rfl, rfl⟩)
    ·
      refine OwnW.ifcY (pc' := 15) d4_10 ((if0 _ _).trans (flt hc10).2.1) (by decide) (by decide) ?_
      refine OwnW.iinc (pc' := 18) (L' := #[.val (.ref q0), .val (.int (0 : Int32)), .val (.int (2 : Int32)), .val (.int (1 : Int32))]) (d := (1 : Int32)) d4_15 rfl rfl rfl rfl ?_
      refine OwnW.goto (pc' := 2) d4_18 (by decide) (by decide) ?_
      refine OwnW.iloadN (pc' := 3) d4_2 rfl rfl ?_
      refine OwnW.iloadN (pc' := 4) d4_3 rfl rfl ?_
      refine OwnW.icmpN (pc' := 7) d4_4 (tlt (by decide)).2.1 rfl ?_
      refine OwnW.aloadN (pc' := 8) d4_7 rfl (rfl) rfl ?_
      refine OwnW.iloadN (pc' := 9) d4_8 rfl rfl ?_
      obtain ⟨cl3, Ar3, qk3, Sz3, Mn3, Hv3, Gf3⟩ := id V_a
      refine OwnW.baload (pc' := 10) (v := (.int b1)) d4_9 Ar3 (inb_of Sz3 ⟨by decide, by decide⟩) (Hv3.at (inb_of Sz3 ⟨by decide, by decide⟩) rfl) rfl ?_
      by_cases hc10_1 : b1 < (0 : Int32)
      ·
        refine OwnW.ifcN (pc' := 13) d4_10 ((if0 _ _).trans (tlt hc10_1).2.1) rfl ?_
        refine OwnW.iconst (pc' := 14) (v := (0 : Int32)) d4_13 rfl rfl ?_
        exact OwnW.retN (t := .boolean) d4_14 rfl (by simp) rfl (by decide) (by decide) (⟨by simp [own_ha, f3, hc10, hc10_1] <;> rfl, rfl⟩)
      ·
        refine OwnW.ifcY (pc' := 15) d4_10 ((if0 _ _).trans (flt hc10_1).2.1) (by decide) (by decide) ?_
        refine OwnW.iinc (pc' := 18) (L' := #[.val (.ref q0), .val (.int (0 : Int32)), .val (.int (2 : Int32)), .val (.int (2 : Int32))]) (d := (1 : Int32)) d4_15 rfl rfl rfl rfl ?_
        refine OwnW.goto (pc' := 2) d4_18 (by decide) (by decide) ?_
        refine OwnW.iloadN (pc' := 3) d4_2 rfl rfl ?_
        refine OwnW.iloadN (pc' := 4) d4_3 rfl rfl ?_
        refine OwnW.icmpY (pc' := 21) d4_4 (flt (by decide)).2.1 (by decide) (by decide) ?_
        refine OwnW.iconst (pc' := 22) (v := (1 : Int32)) d4_21 rfl rfl ?_
        exact OwnW.retN (t := .boolean) d4_22 rfl (by simp) rfl (by decide) (by decide) (⟨by simp [own_ha, f3, hc10, hc10_1] <;> rfl, rfl⟩)
  ·
    show GoB4 l Z n0 _ h0 0 0 0 #[.val (.ref q0), .val (.int (0 : Int32)), .val (.int (3 : Int32)), .unset] []
    refine OwnW.iloadN (pc' := 1) d4_0 rfl rfl ?_
    refine OwnW.istoreN (pc' := 2) (L' := #[.val (.ref q0), .val (.int (0 : Int32)), .val (.int (3 : Int32)), .val (.int (0 : Int32))]) d4_1 rfl rfl ?_
    refine OwnW.iloadN (pc' := 3) d4_2 rfl rfl ?_
    refine OwnW.iloadN (pc' := 4) d4_3 rfl rfl ?_
    refine OwnW.icmpN (pc' := 7) d4_4 (tlt (by decide)).2.1 rfl ?_
    refine OwnW.aloadN (pc' := 8) d4_7 rfl (rfl) rfl ?_
    refine OwnW.iloadN (pc' := 9) d4_8 rfl rfl ?_
    obtain ⟨cl4, Ar4, qk4, Sz4, Mn4, Hv4, Gf4⟩ := id V_a
    refine OwnW.baload (pc' := 10) (v := (.int b0)) d4_9 Ar4 (inb_of Sz4 ⟨by decide, by decide⟩) (Hv4.at (inb_of Sz4 ⟨by decide, by decide⟩) rfl) rfl ?_
    by_cases hc10 : b0 < (0 : Int32)
    ·
      refine OwnW.ifcN (pc' := 13) d4_10 ((if0 _ _).trans (tlt hc10).2.1) rfl ?_
      refine OwnW.iconst (pc' := 14) (v := (0 : Int32)) d4_13 rfl rfl ?_
      exact OwnW.retN (t := .boolean) d4_14 rfl (by simp) rfl (by decide) (by decide) (⟨by simp [own_ha, f3, hc10] <;> rfl, rfl⟩)
    ·
      refine OwnW.ifcY (pc' := 15) d4_10 ((if0 _ _).trans (flt hc10).2.1) (by decide) (by decide) ?_
      refine OwnW.iinc (pc' := 18) (L' := #[.val (.ref q0), .val (.int (0 : Int32)), .val (.int (3 : Int32)), .val (.int (1 : Int32))]) (d := (1 : Int32)) d4_15 rfl rfl rfl rfl ?_
      refine OwnW.goto (pc' := 2) d4_18 (by decide) (by decide) ?_
      refine OwnW.iloadN (pc' := 3) d4_2 rfl rfl ?_
      refine OwnW.iloadN (pc' := 4) d4_3 rfl rfl ?_
      refine OwnW.icmpN (pc' := 7) d4_4 (tlt (by decide)).2.1 rfl ?_
      refine OwnW.aloadN (pc' := 8) d4_7 rfl (rfl) rfl ?_
      refine OwnW.iloadN (pc' := 9) d4_8 rfl rfl ?_
      obtain ⟨cl5, Ar5, qk5, Sz5, Mn5, Hv5, Gf5⟩ := id V_a
      refine OwnW.baload (pc' := 10) (v := (.int b1)) d4_9 Ar5 (inb_of Sz5 ⟨by decide, by decide⟩) (Hv5.at (inb_of Sz5 ⟨by decide, by decide⟩) rfl) rfl ?_
      by_cases hc10_1 : b1 < (0 : Int32)
      ·
        refine OwnW.ifcN (pc' := 13) d4_10 ((if0 _ _).trans (tlt hc10_1).2.1) rfl ?_
        refine OwnW.iconst (pc' := 14) (v := (0 : Int32)) d4_13 rfl rfl ?_
        exact OwnW.retN (t := .boolean) d4_14 rfl (by simp) rfl (by decide) (by decide) (⟨by simp [own_ha, f3, hc10, hc10_1] <;> rfl, rfl⟩)
      ·
        refine OwnW.ifcY (pc' := 15) d4_10 ((if0 _ _).trans (flt hc10_1).2.1) (by decide) (by decide) ?_
        refine OwnW.iinc (pc' := 18) (L' := #[.val (.ref q0), .val (.int (0 : Int32)), .val (.int (3 : Int32)), .val (.int (2 : Int32))]) (d := (1 : Int32)) d4_15 rfl rfl rfl rfl ?_
        refine OwnW.goto (pc' := 2) d4_18 (by decide) (by decide) ?_
        refine OwnW.iloadN (pc' := 3) d4_2 rfl rfl ?_
        refine OwnW.iloadN (pc' := 4) d4_3 rfl rfl ?_
        refine OwnW.icmpN (pc' := 7) d4_4 (tlt (by decide)).2.1 rfl ?_
        refine OwnW.aloadN (pc' := 8) d4_7 rfl (rfl) rfl ?_
        refine OwnW.iloadN (pc' := 9) d4_8 rfl rfl ?_
        obtain ⟨cl6, Ar6, qk6, Sz6, Mn6, Hv6, Gf6⟩ := id V_a
        refine OwnW.baload (pc' := 10) (v := (.int b2)) d4_9 Ar6 (inb_of Sz6 ⟨by decide, by decide⟩) (Hv6.at (inb_of Sz6 ⟨by decide, by decide⟩) rfl) rfl ?_
        by_cases hc10_2 : b2 < (0 : Int32)
        ·
          refine OwnW.ifcN (pc' := 13) d4_10 ((if0 _ _).trans (tlt hc10_2).2.1) rfl ?_
          refine OwnW.iconst (pc' := 14) (v := (0 : Int32)) d4_13 rfl rfl ?_
          exact OwnW.retN (t := .boolean) d4_14 rfl (by simp) rfl (by decide) (by decide) (⟨by simp [own_ha, f3, hc10, hc10_1, hc10_2] <;> rfl, rfl⟩)
        ·
          refine OwnW.ifcY (pc' := 15) d4_10 ((if0 _ _).trans (flt hc10_2).2.1) (by decide) (by decide) ?_
          refine OwnW.iinc (pc' := 18) (L' := #[.val (.ref q0), .val (.int (0 : Int32)), .val (.int (3 : Int32)), .val (.int (3 : Int32))]) (d := (1 : Int32)) d4_15 rfl rfl rfl rfl ?_
          refine OwnW.goto (pc' := 2) d4_18 (by decide) (by decide) ?_
          refine OwnW.iloadN (pc' := 3) d4_2 rfl rfl ?_
          refine OwnW.iloadN (pc' := 4) d4_3 rfl rfl ?_
          refine OwnW.icmpY (pc' := 21) d4_4 (flt (by decide)).2.1 (by decide) (by decide) ?_
          refine OwnW.iconst (pc' := 22) (v := (1 : Int32)) d4_21 rfl rfl ?_
          exact OwnW.retN (t := .boolean) d4_22 rfl (by simp) rfl (by decide) (by decide) (⟨by simp [own_ha, f3, hc10, hc10_1, hc10_2] <;> rfl, rfl⟩)
  ·
    show GoB4 l Z n0 _ h0 0 0 0 #[.val (.ref q0), .val (.int (0 : Int32)), .val (.int (4 : Int32)), .unset] []
    refine OwnW.iloadN (pc' := 1) d4_0 rfl rfl ?_
    refine OwnW.istoreN (pc' := 2) (L' := #[.val (.ref q0), .val (.int (0 : Int32)), .val (.int (4 : Int32)), .val (.int (0 : Int32))]) d4_1 rfl rfl ?_
    refine OwnW.iloadN (pc' := 3) d4_2 rfl rfl ?_
    refine OwnW.iloadN (pc' := 4) d4_3 rfl rfl ?_
    refine OwnW.icmpN (pc' := 7) d4_4 (tlt (by decide)).2.1 rfl ?_
    refine OwnW.aloadN (pc' := 8) d4_7 rfl (rfl) rfl ?_
    refine OwnW.iloadN (pc' := 9) d4_8 rfl rfl ?_
    obtain ⟨cl7, Ar7, qk7, Sz7, Mn7, Hv7, Gf7⟩ := id V_a
    refine OwnW.baload (pc' := 10) (v := (.int b0)) d4_9 Ar7 (inb_of Sz7 ⟨by decide, by decide⟩) (Hv7.at (inb_of Sz7 ⟨by decide, by decide⟩) rfl) rfl ?_
    by_cases hc10 : b0 < (0 : Int32)
    ·
      refine OwnW.ifcN (pc' := 13) d4_10 ((if0 _ _).trans (tlt hc10).2.1) rfl ?_
      refine OwnW.iconst (pc' := 14) (v := (0 : Int32)) d4_13 rfl rfl ?_
      exact OwnW.retN (t := .boolean) d4_14 rfl (by simp) rfl (by decide) (by decide) (⟨by simp [own_ha, f3, hc10] <;> rfl, rfl⟩)
    ·
      refine OwnW.ifcY (pc' := 15) d4_10 ((if0 _ _).trans (flt hc10).2.1) (by decide) (by decide) ?_
      refine OwnW.iinc (pc' := 18) (L' := #[.val (.ref q0), .val (.int (0 : Int32)), .val (.int (4 : Int32)), .val (.int (1 : Int32))]) (d := (1 : Int32)) d4_15 rfl rfl rfl rfl ?_
      refine OwnW.goto (pc' := 2) d4_18 (by decide) (by decide) ?_
      refine OwnW.iloadN (pc' := 3) d4_2 rfl rfl ?_
      refine OwnW.iloadN (pc' := 4) d4_3 rfl rfl ?_
      refine OwnW.icmpN (pc' := 7) d4_4 (tlt (by decide)).2.1 rfl ?_
      refine OwnW.aloadN (pc' := 8) d4_7 rfl (rfl) rfl ?_
      refine OwnW.iloadN (pc' := 9) d4_8 rfl rfl ?_
      obtain ⟨cl8, Ar8, qk8, Sz8, Mn8, Hv8, Gf8⟩ := id V_a
      refine OwnW.baload (pc' := 10) (v := (.int b1)) d4_9 Ar8 (inb_of Sz8 ⟨by decide, by decide⟩) (Hv8.at (inb_of Sz8 ⟨by decide, by decide⟩) rfl) rfl ?_
      by_cases hc10_1 : b1 < (0 : Int32)
      ·
        refine OwnW.ifcN (pc' := 13) d4_10 ((if0 _ _).trans (tlt hc10_1).2.1) rfl ?_
        refine OwnW.iconst (pc' := 14) (v := (0 : Int32)) d4_13 rfl rfl ?_
        exact OwnW.retN (t := .boolean) d4_14 rfl (by simp) rfl (by decide) (by decide) (⟨by simp [own_ha, f3, hc10, hc10_1] <;> rfl, rfl⟩)
      ·
        refine OwnW.ifcY (pc' := 15) d4_10 ((if0 _ _).trans (flt hc10_1).2.1) (by decide) (by decide) ?_
        refine OwnW.iinc (pc' := 18) (L' := #[.val (.ref q0), .val (.int (0 : Int32)), .val (.int (4 : Int32)), .val (.int (2 : Int32))]) (d := (1 : Int32)) d4_15 rfl rfl rfl rfl ?_
        refine OwnW.goto (pc' := 2) d4_18 (by decide) (by decide) ?_
        refine OwnW.iloadN (pc' := 3) d4_2 rfl rfl ?_
        refine OwnW.iloadN (pc' := 4) d4_3 rfl rfl ?_
        refine OwnW.icmpN (pc' := 7) d4_4 (tlt (by decide)).2.1 rfl ?_
        refine OwnW.aloadN (pc' := 8) d4_7 rfl (rfl) rfl ?_
        refine OwnW.iloadN (pc' := 9) d4_8 rfl rfl ?_
        obtain ⟨cl9, Ar9, qk9, Sz9, Mn9, Hv9, Gf9⟩ := id V_a
        refine OwnW.baload (pc' := 10) (v := (.int b2)) d4_9 Ar9 (inb_of Sz9 ⟨by decide, by decide⟩) (Hv9.at (inb_of Sz9 ⟨by decide, by decide⟩) rfl) rfl ?_
        by_cases hc10_2 : b2 < (0 : Int32)
        ·
          refine OwnW.ifcN (pc' := 13) d4_10 ((if0 _ _).trans (tlt hc10_2).2.1) rfl ?_
          refine OwnW.iconst (pc' := 14) (v := (0 : Int32)) d4_13 rfl rfl ?_
          exact OwnW.retN (t := .boolean) d4_14 rfl (by simp) rfl (by decide) (by decide) (⟨by simp [own_ha, f3, hc10, hc10_1, hc10_2] <;> rfl, rfl⟩)
        ·
          refine OwnW.ifcY (pc' := 15) d4_10 ((if0 _ _).trans (flt hc10_2).2.1) (by decide) (by decide) ?_
          refine OwnW.iinc (pc' := 18) (L' := #[.val (.ref q0), .val (.int (0 : Int32)), .val (.int (4 : Int32)), .val (.int (3 : Int32))]) (d := (1 : Int32)) d4_15 rfl rfl rfl rfl ?_
          refine OwnW.goto (pc' := 2) d4_18 (by decide) (by decide) ?_
          refine OwnW.iloadN (pc' := 3) d4_2 rfl rfl ?_
          refine OwnW.iloadN (pc' := 4) d4_3 rfl rfl ?_
          refine OwnW.icmpN (pc' := 7) d4_4 (tlt (by decide)).2.1 rfl ?_
          refine OwnW.aloadN (pc' := 8) d4_7 rfl (rfl) rfl ?_
          refine OwnW.iloadN (pc' := 9) d4_8 rfl rfl ?_
          obtain ⟨cl10, Ar10, qk10, Sz10, Mn10, Hv10, Gf10⟩ := id V_a
          refine OwnW.baload (pc' := 10) (v := (.int b3)) d4_9 Ar10 (inb_of Sz10 ⟨by decide, by decide⟩) (Hv10.at (inb_of Sz10 ⟨by decide, by decide⟩) rfl) rfl ?_
          by_cases hc10_3 : b3 < (0 : Int32)
          ·
            refine OwnW.ifcN (pc' := 13) d4_10 ((if0 _ _).trans (tlt hc10_3).2.1) rfl ?_
            refine OwnW.iconst (pc' := 14) (v := (0 : Int32)) d4_13 rfl rfl ?_
            exact OwnW.retN (t := .boolean) d4_14 rfl (by simp) rfl (by decide) (by decide) (⟨by simp [own_ha, f3, hc10, hc10_1, hc10_2, hc10_3] <;> rfl, rfl⟩)
          ·
            refine OwnW.ifcY (pc' := 15) d4_10 ((if0 _ _).trans (flt hc10_3).2.1) (by decide) (by decide) ?_
            refine OwnW.iinc (pc' := 18) (L' := #[.val (.ref q0), .val (.int (0 : Int32)), .val (.int (4 : Int32)), .val (.int (4 : Int32))]) (d := (1 : Int32)) d4_15 rfl rfl rfl rfl ?_
            refine OwnW.goto (pc' := 2) d4_18 (by decide) (by decide) ?_
            refine OwnW.iloadN (pc' := 3) d4_2 rfl rfl ?_
            refine OwnW.iloadN (pc' := 4) d4_3 rfl rfl ?_
            refine OwnW.icmpY (pc' := 21) d4_4 (flt (by decide)).2.1 (by decide) (by decide) ?_
            refine OwnW.iconst (pc' := 22) (v := (1 : Int32)) d4_21 rfl rfl ?_
            exact OwnW.retN (t := .boolean) d4_22 rfl (by simp) rfl (by decide) (by decide) (⟨by simp [own_ha, f3, hc10, hc10_1, hc10_2, hc10_3] <;> rfl, rfl⟩)
  ·
    show GoB4 l Z n0 _ h0 0 0 0 #[.val (.ref q0), .val (.int (1 : Int32)), .val (.int (1 : Int32)), .unset] []
    refine OwnW.iloadN (pc' := 1) d4_0 rfl rfl ?_
    refine OwnW.istoreN (pc' := 2) (L' := #[.val (.ref q0), .val (.int (1 : Int32)), .val (.int (1 : Int32)), .val (.int (1 : Int32))]) d4_1 rfl rfl ?_
    refine OwnW.iloadN (pc' := 3) d4_2 rfl rfl ?_
    refine OwnW.iloadN (pc' := 4) d4_3 rfl rfl ?_
    refine OwnW.icmpY (pc' := 21) d4_4 (flt (by decide)).2.1 (by decide) (by decide) ?_
    refine OwnW.iconst (pc' := 22) (v := (1 : Int32)) d4_21 rfl rfl ?_
    exact OwnW.retN (t := .boolean) d4_22 rfl (by simp) rfl (by decide) (by decide) (⟨by simp [own_ha, f3] <;> rfl, rfl⟩)
  ·
    show GoB4 l Z n0 _ h0 0 0 0 #[.val (.ref q0), .val (.int (1 : Int32)), .val (.int (2 : Int32)), .unset] []
    refine OwnW.iloadN (pc' := 1) d4_0 rfl rfl ?_
    refine OwnW.istoreN (pc' := 2) (L' := #[.val (.ref q0), .val (.int (1 : Int32)), .val (.int (2 : Int32)), .val (.int (1 : Int32))]) d4_1 rfl rfl ?_
    refine OwnW.iloadN (pc' := 3) d4_2 rfl rfl ?_
    refine OwnW.iloadN (pc' := 4) d4_3 rfl rfl ?_
    refine OwnW.icmpN (pc' := 7) d4_4 (tlt (by decide)).2.1 rfl ?_
    refine OwnW.aloadN (pc' := 8) d4_7 rfl (rfl) rfl ?_
    refine OwnW.iloadN (pc' := 9) d4_8 rfl rfl ?_
    obtain ⟨cl11, Ar11, qk11, Sz11, Mn11, Hv11, Gf11⟩ := id V_a
    refine OwnW.baload (pc' := 10) (v := (.int b1)) d4_9 Ar11 (inb_of Sz11 ⟨by decide, by decide⟩) (Hv11.at (inb_of Sz11 ⟨by decide, by decide⟩) rfl) rfl ?_
    by_cases hc10 : b1 < (0 : Int32)
    ·
      refine OwnW.ifcN (pc' := 13) d4_10 ((if0 _ _).trans (tlt hc10).2.1) rfl ?_
      refine OwnW.iconst (pc' := 14) (v := (0 : Int32)) d4_13 rfl rfl ?_
      exact OwnW.retN (t := .boolean) d4_14 rfl (by simp) rfl (by decide) (by decide) (⟨by simp [own_ha, f3, hc10] <;> rfl, rfl⟩)
    ·
      refine OwnW.ifcY (pc' := 15) d4_10 ((if0 _ _).trans (flt hc10).2.1) (by decide) (by decide) ?_
      refine OwnW.iinc (pc' := 18) (L' := #[.val (.ref q0), .val (.int (1 : Int32)), .val (.int (2 : Int32)), .val (.int (2 : Int32))]) (d := (1 : Int32)) d4_15 rfl rfl rfl rfl ?_
      refine OwnW.goto (pc' := 2) d4_18 (by decide) (by decide) ?_
      refine OwnW.iloadN (pc' := 3) d4_2 rfl rfl ?_
      refine OwnW.iloadN (pc' := 4) d4_3 rfl rfl ?_
      refine OwnW.icmpY (pc' := 21) d4_4 (flt (by decide)).2.1 (by decide) (by decide) ?_
      refine OwnW.iconst (pc' := 22) (v := (1 : Int32)) d4_21 rfl rfl ?_
      exact OwnW.retN (t := .boolean) d4_22 rfl (by simp) rfl (by decide) (by decide) (⟨by simp [own_ha, f3, hc10] <;> rfl, rfl⟩)
  ·
    show GoB4 l Z n0 _ h0 0 0 0 #[.val (.ref q0), .val (.int (1 : Int32)), .val (.int (3 : Int32)), .unset] []
    refine OwnW.iloadN (pc' := 1) d4_0 rfl rfl ?_
    refine OwnW.istoreN (pc' := 2) (L' := #[.val (.ref q0), .val (.int (1 : Int32)), .val (.int (3 : Int32)), .val (.int (1 : Int32))]) d4_1 rfl rfl ?_
    refine OwnW.iloadN (pc' := 3) d4_2 rfl rfl ?_
    refine OwnW.iloadN (pc' := 4) d4_3 rfl rfl ?_
    refine OwnW.icmpN (pc' := 7) d4_4 (tlt (by decide)).2.1 rfl ?_
    refine OwnW.aloadN (pc' := 8) d4_7 rfl (rfl) rfl ?_
    refine OwnW.iloadN (pc' := 9) d4_8 rfl rfl ?_
    obtain ⟨cl12, Ar12, qk12, Sz12, Mn12, Hv12, Gf12⟩ := id V_a
    refine OwnW.baload (pc' := 10) (v := (.int b1)) d4_9 Ar12 (inb_of Sz12 ⟨by decide, by decide⟩) (Hv12.at (inb_of Sz12 ⟨by decide, by decide⟩) rfl) rfl ?_
    by_cases hc10 : b1 < (0 : Int32)
    ·
      refine OwnW.ifcN (pc' := 13) d4_10 ((if0 _ _).trans (tlt hc10).2.1) rfl ?_
      refine OwnW.iconst (pc' := 14) (v := (0 : Int32)) d4_13 rfl rfl ?_
      exact OwnW.retN (t := .boolean) d4_14 rfl (by simp) rfl (by decide) (by decide) (⟨by simp [own_ha, f3, hc10] <;> rfl, rfl⟩)
    ·
      refine OwnW.ifcY (pc' := 15) d4_10 ((if0 _ _).trans (flt hc10).2.1) (by decide) (by decide) ?_
      refine OwnW.iinc (pc' := 18) (L' := #[.val (.ref q0), .val (.int (1 : Int32)), .val (.int (3 : Int32)), .val (.int (2 : Int32))]) (d := (1 : Int32)) d4_15 rfl rfl rfl rfl ?_
      refine OwnW.goto (pc' := 2) d4_18 (by decide) (by decide) ?_
      refine OwnW.iloadN (pc' := 3) d4_2 rfl rfl ?_
      refine OwnW.iloadN (pc' := 4) d4_3 rfl rfl ?_
      refine OwnW.icmpN (pc' := 7) d4_4 (tlt (by decide)).2.1 rfl ?_
      refine OwnW.aloadN (pc' := 8) d4_7 rfl (rfl) rfl ?_
      refine OwnW.iloadN (pc' := 9) d4_8 rfl rfl ?_
      obtain ⟨cl13, Ar13, qk13, Sz13, Mn13, Hv13, Gf13⟩ := id V_a
      refine OwnW.baload (pc' := 10) (v := (.int b2)) d4_9 Ar13 (inb_of Sz13 ⟨by decide, by decide⟩) (Hv13.at (inb_of Sz13 ⟨by decide, by decide⟩) rfl) rfl ?_
      by_cases hc10_1 : b2 < (0 : Int32)
      ·
        refine OwnW.ifcN (pc' := 13) d4_10 ((if0 _ _).trans (tlt hc10_1).2.1) rfl ?_
        refine OwnW.iconst (pc' := 14) (v := (0 : Int32)) d4_13 rfl rfl ?_
        exact OwnW.retN (t := .boolean) d4_14 rfl (by simp) rfl (by decide) (by decide) (⟨by simp [own_ha, f3, hc10, hc10_1] <;> rfl, rfl⟩)
      ·
        refine OwnW.ifcY (pc' := 15) d4_10 ((if0 _ _).trans (flt hc10_1).2.1) (by decide) (by decide) ?_
        refine OwnW.iinc (pc' := 18) (L' := #[.val (.ref q0), .val (.int (1 : Int32)), .val (.int (3 : Int32)), .val (.int (3 : Int32))]) (d := (1 : Int32)) d4_15 rfl rfl rfl rfl ?_
        refine OwnW.goto (pc' := 2) d4_18 (by decide) (by decide) ?_
        refine OwnW.iloadN (pc' := 3) d4_2 rfl rfl ?_
        refine OwnW.iloadN (pc' := 4) d4_3 rfl rfl ?_
        refine OwnW.icmpY (pc' := 21) d4_4 (flt (by decide)).2.1 (by decide) (by decide) ?_
        refine OwnW.iconst (pc' := 22) (v := (1 : Int32)) d4_21 rfl rfl ?_
        exact OwnW.retN (t := .boolean) d4_22 rfl (by simp) rfl (by decide) (by decide) (⟨by simp [own_ha, f3, hc10, hc10_1] <;> rfl, rfl⟩)
  ·
    show GoB4 l Z n0 _ h0 0 0 0 #[.val (.ref q0), .val (.int (1 : Int32)), .val (.int (4 : Int32)), .unset] []
    refine OwnW.iloadN (pc' := 1) d4_0 rfl rfl ?_
    refine OwnW.istoreN (pc' := 2) (L' := #[.val (.ref q0), .val (.int (1 : Int32)), .val (.int (4 : Int32)), .val (.int (1 : Int32))]) d4_1 rfl rfl ?_
    refine OwnW.iloadN (pc' := 3) d4_2 rfl rfl ?_
    refine OwnW.iloadN (pc' := 4) d4_3 rfl rfl ?_
    refine OwnW.icmpN (pc' := 7) d4_4 (tlt (by decide)).2.1 rfl ?_
    refine OwnW.aloadN (pc' := 8) d4_7 rfl (rfl) rfl ?_
    refine OwnW.iloadN (pc' := 9) d4_8 rfl rfl ?_
    obtain ⟨cl14, Ar14, qk14, Sz14, Mn14, Hv14, Gf14⟩ := id V_a
    refine OwnW.baload (pc' := 10) (v := (.int b1)) d4_9 Ar14 (inb_of Sz14 ⟨by decide, by decide⟩) (Hv14.at (inb_of Sz14 ⟨by decide, by decide⟩) rfl) rfl ?_
    by_cases hc10 : b1 < (0 : Int32)
    ·
      refine OwnW.ifcN (pc' := 13) d4_10 ((if0 _ _).trans (tlt hc10).2.1) rfl ?_
      refine OwnW.iconst (pc' := 14) (v := (0 : Int32)) d4_13 rfl rfl ?_
      exact OwnW.retN (t := .boolean) d4_14 rfl (by simp) rfl (by decide) (by decide) (⟨by simp [own_ha, f3, hc10] <;> rfl, rfl⟩)
    ·
      refine OwnW.ifcY (pc' := 15) d4_10 ((if0 _ _).trans (flt hc10).2.1) (by decide) (by decide) ?_
      refine OwnW.iinc (pc' := 18) (L' := #[.val (.ref q0), .val (.int (1 : Int32)), .val (.int (4 : Int32)), .val (.int (2 : Int32))]) (d := (1 : Int32)) d4_15 rfl rfl rfl rfl ?_
      refine OwnW.goto (pc' := 2) d4_18 (by decide) (by decide) ?_
      refine OwnW.iloadN (pc' := 3) d4_2 rfl rfl ?_
      refine OwnW.iloadN (pc' := 4) d4_3 rfl rfl ?_
      refine OwnW.icmpN (pc' := 7) d4_4 (tlt (by decide)).2.1 rfl ?_
      refine OwnW.aloadN (pc' := 8) d4_7 rfl (rfl) rfl ?_
      refine OwnW.iloadN (pc' := 9) d4_8 rfl rfl ?_
      obtain ⟨cl15, Ar15, qk15, Sz15, Mn15, Hv15, Gf15⟩ := id V_a
      refine OwnW.baload (pc' := 10) (v := (.int b2)) d4_9 Ar15 (inb_of Sz15 ⟨by decide, by decide⟩) (Hv15.at (inb_of Sz15 ⟨by decide, by decide⟩) rfl) rfl ?_
      by_cases hc10_1 : b2 < (0 : Int32)
      ·
        refine OwnW.ifcN (pc' := 13) d4_10 ((if0 _ _).trans (tlt hc10_1).2.1) rfl ?_
        refine OwnW.iconst (pc' := 14) (v := (0 : Int32)) d4_13 rfl rfl ?_
        exact OwnW.retN (t := .boolean) d4_14 rfl (by simp) rfl (by decide) (by decide) (⟨by simp [own_ha, f3, hc10, hc10_1] <;> rfl, rfl⟩)
      ·
        refine OwnW.ifcY (pc' := 15) d4_10 ((if0 _ _).trans (flt hc10_1).2.1) (by decide) (by decide) ?_
        refine OwnW.iinc (pc' := 18) (L' := #[.val (.ref q0), .val (.int (1 : Int32)), .val (.int (4 : Int32)), .val (.int (3 : Int32))]) (d := (1 : Int32)) d4_15 rfl rfl rfl rfl ?_
        refine OwnW.goto (pc' := 2) d4_18 (by decide) (by decide) ?_
        refine OwnW.iloadN (pc' := 3) d4_2 rfl rfl ?_
        refine OwnW.iloadN (pc' := 4) d4_3 rfl rfl ?_
        refine OwnW.icmpN (pc' := 7) d4_4 (tlt (by decide)).2.1 rfl ?_
        refine OwnW.aloadN (pc' := 8) d4_7 rfl (rfl) rfl ?_
        refine OwnW.iloadN (pc' := 9) d4_8 rfl rfl ?_
        obtain ⟨cl16, Ar16, qk16, Sz16, Mn16, Hv16, Gf16⟩ := id V_a
        refine OwnW.baload (pc' := 10) (v := (.int b3)) d4_9 Ar16 (inb_of Sz16 ⟨by decide, by decide⟩) (Hv16.at (inb_of Sz16 ⟨by decide, by decide⟩) rfl) rfl ?_
        by_cases hc10_2 : b3 < (0 : Int32)
        ·
          refine OwnW.ifcN (pc' := 13) d4_10 ((if0 _ _).trans (tlt hc10_2).2.1) rfl ?_
          refine OwnW.iconst (pc' := 14) (v := (0 : Int32)) d4_13 rfl rfl ?_
          exact OwnW.retN (t := .boolean) d4_14 rfl (by simp) rfl (by decide) (by decide) (⟨by simp [own_ha, f3, hc10, hc10_1, hc10_2] <;> rfl, rfl⟩)
        ·
          refine OwnW.ifcY (pc' := 15) d4_10 ((if0 _ _).trans (flt hc10_2).2.1) (by decide) (by decide) ?_
          refine OwnW.iinc (pc' := 18) (L' := #[.val (.ref q0), .val (.int (1 : Int32)), .val (.int (4 : Int32)), .val (.int (4 : Int32))]) (d := (1 : Int32)) d4_15 rfl rfl rfl rfl ?_
          refine OwnW.goto (pc' := 2) d4_18 (by decide) (by decide) ?_
          refine OwnW.iloadN (pc' := 3) d4_2 rfl rfl ?_
          refine OwnW.iloadN (pc' := 4) d4_3 rfl rfl ?_
          refine OwnW.icmpY (pc' := 21) d4_4 (flt (by decide)).2.1 (by decide) (by decide) ?_
          refine OwnW.iconst (pc' := 22) (v := (1 : Int32)) d4_21 rfl rfl ?_
          exact OwnW.retN (t := .boolean) d4_22 rfl (by simp) rfl (by decide) (by decide) (⟨by simp [own_ha, f3, hc10, hc10_1, hc10_2] <;> rfl, rfl⟩)
  ·
    show GoB4 l Z n0 _ h0 0 0 0 #[.val (.ref q0), .val (.int (2 : Int32)), .val (.int (2 : Int32)), .unset] []
    refine OwnW.iloadN (pc' := 1) d4_0 rfl rfl ?_
    refine OwnW.istoreN (pc' := 2) (L' := #[.val (.ref q0), .val (.int (2 : Int32)), .val (.int (2 : Int32)), .val (.int (2 : Int32))]) d4_1 rfl rfl ?_
    refine OwnW.iloadN (pc' := 3) d4_2 rfl rfl ?_
    refine OwnW.iloadN (pc' := 4) d4_3 rfl rfl ?_
    refine OwnW.icmpY (pc' := 21) d4_4 (flt (by decide)).2.1 (by decide) (by decide) ?_
    refine OwnW.iconst (pc' := 22) (v := (1 : Int32)) d4_21 rfl rfl ?_
    exact OwnW.retN (t := .boolean) d4_22 rfl (by simp) rfl (by decide) (by decide) (⟨by simp [own_ha, f3] <;> rfl, rfl⟩)
  ·
    show GoB4 l Z n0 _ h0 0 0 0 #[.val (.ref q0), .val (.int (2 : Int32)), .val (.int (3 : Int32)), .unset] []
    refine OwnW.iloadN (pc' := 1) d4_0 rfl rfl ?_
    refine OwnW.istoreN (pc' := 2) (L' := #[.val (.ref q0), .val (.int (2 : Int32)), .val (.int (3 : Int32)), .val (.int (2 : Int32))]) d4_1 rfl rfl ?_
    refine OwnW.iloadN (pc' := 3) d4_2 rfl rfl ?_
    refine OwnW.iloadN (pc' := 4) d4_3 rfl rfl ?_
    refine OwnW.icmpN (pc' := 7) d4_4 (tlt (by decide)).2.1 rfl ?_
    refine OwnW.aloadN (pc' := 8) d4_7 rfl (rfl) rfl ?_
    refine OwnW.iloadN (pc' := 9) d4_8 rfl rfl ?_
    obtain ⟨cl17, Ar17, qk17, Sz17, Mn17, Hv17, Gf17⟩ := id V_a
    refine OwnW.baload (pc' := 10) (v := (.int b2)) d4_9 Ar17 (inb_of Sz17 ⟨by decide, by decide⟩) (Hv17.at (inb_of Sz17 ⟨by decide, by decide⟩) rfl) rfl ?_
    by_cases hc10 : b2 < (0 : Int32)
    ·
      refine OwnW.ifcN (pc' := 13) d4_10 ((if0 _ _).trans (tlt hc10).2.1) rfl ?_
      refine OwnW.iconst (pc' := 14) (v := (0 : Int32)) d4_13 rfl rfl ?_
      exact OwnW.retN (t := .boolean) d4_14 rfl (by simp) rfl (by decide) (by decide) (⟨by simp [own_ha, f3, hc10] <;> rfl, rfl⟩)
    ·
      refine OwnW.ifcY (pc' := 15) d4_10 ((if0 _ _).trans (flt hc10).2.1) (by decide) (by decide) ?_
      refine OwnW.iinc (pc' := 18) (L' := #[.val (.ref q0), .val (.int (2 : Int32)), .val (.int (3 : Int32)), .val (.int (3 : Int32))]) (d := (1 : Int32)) d4_15 rfl rfl rfl rfl ?_
      refine OwnW.goto (pc' := 2) d4_18 (by decide) (by decide) ?_
      refine OwnW.iloadN (pc' := 3) d4_2 rfl rfl ?_
      refine OwnW.iloadN (pc' := 4) d4_3 rfl rfl ?_
      refine OwnW.icmpY (pc' := 21) d4_4 (flt (by decide)).2.1 (by decide) (by decide) ?_
      refine OwnW.iconst (pc' := 22) (v := (1 : Int32)) d4_21 rfl rfl ?_
      exact OwnW.retN (t := .boolean) d4_22 rfl (by simp) rfl (by decide) (by decide) (⟨by simp [own_ha, f3, hc10] <;> rfl, rfl⟩)
  ·
    show GoB4 l Z n0 _ h0 0 0 0 #[.val (.ref q0), .val (.int (2 : Int32)), .val (.int (4 : Int32)), .unset] []
    refine OwnW.iloadN (pc' := 1) d4_0 rfl rfl ?_
    refine OwnW.istoreN (pc' := 2) (L' := #[.val (.ref q0), .val (.int (2 : Int32)), .val (.int (4 : Int32)), .val (.int (2 : Int32))]) d4_1 rfl rfl ?_
    refine OwnW.iloadN (pc' := 3) d4_2 rfl rfl ?_
    refine OwnW.iloadN (pc' := 4) d4_3 rfl rfl ?_
    refine OwnW.icmpN (pc' := 7) d4_4 (tlt (by decide)).2.1 rfl ?_
    refine OwnW.aloadN (pc' := 8) d4_7 rfl (rfl) rfl ?_
    refine OwnW.iloadN (pc' := 9) d4_8 rfl rfl ?_
    obtain ⟨cl18, Ar18, qk18, Sz18, Mn18, Hv18, Gf18⟩ := id V_a
    refine OwnW.baload (pc' := 10) (v := (.int b2)) d4_9 Ar18 (inb_of Sz18 ⟨by decide, by decide⟩) (Hv18.at (inb_of Sz18 ⟨by decide, by decide⟩) rfl) rfl ?_
    by_cases hc10 : b2 < (0 : Int32)
    ·
      refine OwnW.ifcN (pc' := 13) d4_10 ((if0 _ _).trans (tlt hc10).2.1) rfl ?_
      refine OwnW.iconst (pc' := 14) (v := (0 : Int32)) d4_13 rfl rfl ?_
      exact OwnW.retN (t := .boolean) d4_14 rfl (by simp) rfl (by decide) (by decide) (⟨by simp [own_ha, f3, hc10] <;> rfl, rfl⟩)
    ·
      refine OwnW.ifcY (pc' := 15) d4_10 ((if0 _ _).trans (flt hc10).2.1) (by decide) (by decide) ?_
      refine OwnW.iinc (pc' := 18) (L' := #[.val (.ref q0), .val (.int (2 : Int32)), .val (.int (4 : Int32)), .val (.int (3 : Int32))]) (d := (1 : Int32)) d4_15 rfl rfl rfl rfl ?_
      refine OwnW.goto (pc' := 2) d4_18 (by decide) (by decide) ?_
      refine OwnW.iloadN (pc' := 3) d4_2 rfl rfl ?_
      refine OwnW.iloadN (pc' := 4) d4_3 rfl rfl ?_
      refine OwnW.icmpN (pc' := 7) d4_4 (tlt (by decide)).2.1 rfl ?_
      refine OwnW.aloadN (pc' := 8) d4_7 rfl (rfl) rfl ?_
      refine OwnW.iloadN (pc' := 9) d4_8 rfl rfl ?_
      obtain ⟨cl19, Ar19, qk19, Sz19, Mn19, Hv19, Gf19⟩ := id V_a
      refine OwnW.baload (pc' := 10) (v := (.int b3)) d4_9 Ar19 (inb_of Sz19 ⟨by decide, by decide⟩) (Hv19.at (inb_of Sz19 ⟨by decide, by decide⟩) rfl) rfl ?_
      by_cases hc10_1 : b3 < (0 : Int32)
      ·
        refine OwnW.ifcN (pc' := 13) d4_10 ((if0 _ _).trans (tlt hc10_1).2.1) rfl ?_
        refine OwnW.iconst (pc' := 14) (v := (0 : Int32)) d4_13 rfl rfl ?_
        exact OwnW.retN (t := .boolean) d4_14 rfl (by simp) rfl (by decide) (by decide) (⟨by simp [own_ha, f3, hc10, hc10_1] <;> rfl, rfl⟩)
      ·
        refine OwnW.ifcY (pc' := 15) d4_10 ((if0 _ _).trans (flt hc10_1).2.1) (by decide) (by decide) ?_
        refine OwnW.iinc (pc' := 18) (L' := #[.val (.ref q0), .val (.int (2 : Int32)), .val (.int (4 : Int32)), .val (.int (4 : Int32))]) (d := (1 : Int32)) d4_15 rfl rfl rfl rfl ?_
        refine OwnW.goto (pc' := 2) d4_18 (by decide) (by decide) ?_
        refine OwnW.iloadN (pc' := 3) d4_2 rfl rfl ?_
        refine OwnW.iloadN (pc' := 4) d4_3 rfl rfl ?_
        refine OwnW.icmpY (pc' := 21) d4_4 (flt (by decide)).2.1 (by decide) (by decide) ?_
        refine OwnW.iconst (pc' := 22) (v := (1 : Int32)) d4_21 rfl rfl ?_
        exact OwnW.retN (t := .boolean) d4_22 rfl (by simp) rfl (by decide) (by decide) (⟨by simp [own_ha, f3, hc10, hc10_1] <;> rfl, rfl⟩)
  ·
    show GoB4 l Z n0 _ h0 0 0 0 #[.val (.ref q0), .val (.int (3 : Int32)), .val (.int (3 : Int32)), .unset] []
    refine OwnW.iloadN (pc' := 1) d4_0 rfl rfl ?_
    refine OwnW.istoreN (pc' := 2) (L' := #[.val (.ref q0), .val (.int (3 : Int32)), .val (.int (3 : Int32)), .val (.int (3 : Int32))]) d4_1 rfl rfl ?_
    refine OwnW.iloadN (pc' := 3) d4_2 rfl rfl ?_
    refine OwnW.iloadN (pc' := 4) d4_3 rfl rfl ?_
    refine OwnW.icmpY (pc' := 21) d4_4 (flt (by decide)).2.1 (by decide) (by decide) ?_
    refine OwnW.iconst (pc' := 22) (v := (1 : Int32)) d4_21 rfl rfl ?_
    exact OwnW.retN (t := .boolean) d4_22 rfl (by simp) rfl (by decide) (by decide) (⟨by simp [own_ha, f3] <;> rfl, rfl⟩)
  ·
    show GoB4 l Z n0 _ h0 0 0 0 #[.val (.ref q0), .val (.int (3 : Int32)), .val (.int (4 : Int32)), .unset] []
    refine OwnW.iloadN (pc' := 1) d4_0 rfl rfl ?_
    refine OwnW.istoreN (pc' := 2) (L' := #[.val (.ref q0), .val (.int (3 : Int32)), .val (.int (4 : Int32)), .val (.int (3 : Int32))]) d4_1 rfl rfl ?_
    refine OwnW.iloadN (pc' := 3) d4_2 rfl rfl ?_
    refine OwnW.iloadN (pc' := 4) d4_3 rfl rfl ?_
    refine OwnW.icmpN (pc' := 7) d4_4 (tlt (by decide)).2.1 rfl ?_
    refine OwnW.aloadN (pc' := 8) d4_7 rfl (rfl) rfl ?_
    refine OwnW.iloadN (pc' := 9) d4_8 rfl rfl ?_
    obtain ⟨cl20, Ar20, qk20, Sz20, Mn20, Hv20, Gf20⟩ := id V_a
    refine OwnW.baload (pc' := 10) (v := (.int b3)) d4_9 Ar20 (inb_of Sz20 ⟨by decide, by decide⟩) (Hv20.at (inb_of Sz20 ⟨by decide, by decide⟩) rfl) rfl ?_
    by_cases hc10 : b3 < (0 : Int32)
    ·
      refine OwnW.ifcN (pc' := 13) d4_10 ((if0 _ _).trans (tlt hc10).2.1) rfl ?_
      refine OwnW.iconst (pc' := 14) (v := (0 : Int32)) d4_13 rfl rfl ?_
      exact OwnW.retN (t := .boolean) d4_14 rfl (by simp) rfl (by decide) (by decide) (⟨by simp [own_ha, f3, hc10] <;> rfl, rfl⟩)
    ·
      refine OwnW.ifcY (pc' := 15) d4_10 ((if0 _ _).trans (flt hc10).2.1) (by decide) (by decide) ?_
      refine OwnW.iinc (pc' := 18) (L' := #[.val (.ref q0), .val (.int (3 : Int32)), .val (.int (4 : Int32)), .val (.int (4 : Int32))]) (d := (1 : Int32)) d4_15 rfl rfl rfl rfl ?_
      refine OwnW.goto (pc' := 2) d4_18 (by decide) (by decide) ?_
      refine OwnW.iloadN (pc' := 3) d4_2 rfl rfl ?_
      refine OwnW.iloadN (pc' := 4) d4_3 rfl rfl ?_
      refine OwnW.icmpY (pc' := 21) d4_4 (flt (by decide)).2.1 (by decide) (by decide) ?_
      refine OwnW.iconst (pc' := 22) (v := (1 : Int32)) d4_21 rfl rfl ?_
      exact OwnW.retN (t := .boolean) d4_22 rfl (by simp) rfl (by decide) (by decide) (⟨by simp [own_ha, f3, hc10] <;> rfl, rfl⟩)
  ·
    show GoB4 l Z n0 _ h0 0 0 0 #[.val (.ref q0), .val (.int (4 : Int32)), .val (.int (4 : Int32)), .unset] []
    refine OwnW.iloadN (pc' := 1) d4_0 rfl rfl ?_
    refine OwnW.istoreN (pc' := 2) (L' := #[.val (.ref q0), .val (.int (4 : Int32)), .val (.int (4 : Int32)), .val (.int (4 : Int32))]) d4_1 rfl rfl ?_
    refine OwnW.iloadN (pc' := 3) d4_2 rfl rfl ?_
    refine OwnW.iloadN (pc' := 4) d4_3 rfl rfl ?_
    refine OwnW.icmpY (pc' := 21) d4_4 (flt (by decide)).2.1 (by decide) (by decide) ?_
    refine OwnW.iconst (pc' := 22) (v := (1 : Int32)) d4_21 rfl rfl ?_
    exact OwnW.retN (t := .boolean) d4_22 rfl (by simp) rfl (by decide) (by decide) (⟨by simp [own_ha, f3] <;> rfl, rfl⟩)

theorem own_nar (x : Int32) : nar .byte (x.toInt8.toInt32) = x.toInt8.toInt32 := by simp [nar]
theorem own_five {x : Int32} : ((x &&& (2147483647 : Int32)) % (5 : Int32)) = 0 ∨ ((x &&& (2147483647 : Int32)) % (5 : Int32)) = 1 ∨ ((x &&& (2147483647 : Int32)) % (5 : Int32)) = 2 ∨ ((x &&& (2147483647 : Int32)) % (5 : Int32)) = 3 ∨ ((x &&& (2147483647 : Int32)) % (5 : Int32)) = 4 := by
  have e := c_mask x 2147483647 31 (by decide) (by decide)
  have r := (c_irem (x &&& 2147483647) 5 5 (by decide)).1 (by omega)
  have b : ((x &&& (2147483647 : Int32)) % (5 : Int32)).toInt = 0 ∨ ((x &&& (2147483647 : Int32)) % (5 : Int32)).toInt = 1 ∨ ((x &&& (2147483647 : Int32)) % (5 : Int32)).toInt = 2 ∨ ((x &&& (2147483647 : Int32)) % (5 : Int32)).toInt = 3 ∨ ((x &&& (2147483647 : Int32)) % (5 : Int32)).toInt = 4 := by omega
  simpa [← Int32.toInt_inj] using b
theorem own_pairs {x z q1 q2 : Int32} (h1 : q1 = (f1 ((x &&& (2147483647 : Int32)) % (5 : Int32)) ((z &&& (2147483647 : Int32)) % (5 : Int32)))) (h2 : q2 = (f2 ((x &&& (2147483647 : Int32)) % (5 : Int32)) ((z &&& (2147483647 : Int32)) % (5 : Int32)))) :
    (q1 = (0 : Int32) ∧ q2 = (0 : Int32)) ∨ (q1 = (0 : Int32) ∧ q2 = (1 : Int32)) ∨ (q1 = (0 : Int32) ∧ q2 = (2 : Int32)) ∨ (q1 = (0 : Int32) ∧ q2 = (3 : Int32)) ∨ (q1 = (0 : Int32) ∧ q2 = (4 : Int32)) ∨ (q1 = (1 : Int32) ∧ q2 = (1 : Int32)) ∨ (q1 = (1 : Int32) ∧ q2 = (2 : Int32)) ∨ (q1 = (1 : Int32) ∧ q2 = (3 : Int32)) ∨ (q1 = (1 : Int32) ∧ q2 = (4 : Int32)) ∨ (q1 = (2 : Int32) ∧ q2 = (2 : Int32)) ∨ (q1 = (2 : Int32) ∧ q2 = (3 : Int32)) ∨ (q1 = (2 : Int32) ∧ q2 = (4 : Int32)) ∨ (q1 = (3 : Int32) ∧ q2 = (3 : Int32)) ∨ (q1 = (3 : Int32) ∧ q2 = (4 : Int32)) ∨ (q1 = (4 : Int32) ∧ q2 = (4 : Int32)) := by
  subst h1 h2
  rcases own_five (x := x) with h | h | h | h | h <;> rcases own_five (x := z) with h' | h' | h' | h' | h' <;> rw [h, h'] <;> decide
theorem own_law {b0 b1 b2 b3 lo hi bd exp : Int32} {q0 : Addr} {kk : ClassId} (hbd : bd = (if (f3 b0 (0 : Int32) lo hi) = (0 : Int32) then (if (f3 b1 (1 : Int32) lo hi) = (0 : Int32) then (if (f3 b2 (2 : Int32) lo hi) = (0 : Int32) then (if (f3 b3 (3 : Int32) lo hi) = (0 : Int32) then (0 : Int32) else (1 : Int32)) else (1 : Int32)) else (1 : Int32)) else (1 : Int32))) (hexp : exp = (if bd = (0 : Int32) then (1 : Int32) else (0 : Int32))) : own_ha q0 lo hi kk b0 b1 b2 b3 = exp := by
  subst hexp hbd
  unfold own_ha
  repeat' split
  all_goals simp_all

abbrev GoB0 (l : Launch) (Z : State) (n0 : Nat) (Q : Option Value → Heap → Prop) := Go l Z room_1 x code maxLocals ret n0 Q
theorem ef0 (m : MethodId) (p0 : Int32) (p1 : Int32) (p2 : Int32) : entryFrame m #[(.int p0), (.int p1), (.int p2)] maxLocals = mkF m 0 #[.val (.int p0), .val (.int p1), .val (.int p2), .unset, .unset, .unset, .unset, .unset, .unset, .unset] [] := by first | (simp [entryFrame, mkF, argsToLocals, Value.category, maxLocals]; done) | rfl
set_option maxRecDepth 65536 in
set_option maxHeartbeats 400000000 in
theorem rm0 (l : Launch) (Z : State) (a0 : Array Value) (hw : ∀ d ∈ tables_1, d.before a0 Z = true) (p0 : Int32) (p1 : Int32) (p2 : Int32) (h0 : Heap) (n0 : Nat) (Z0 : n0 ≤ h0.size) :
    Con l Z room_1 x code maxLocals ret n0 #[(.int p0), (.int p1), (.int p2)] h0 OwnW.One1 := by
  refine OwnW.Con.of (by first | decide +kernel | exact plainFor_of_name (by simp [x, plainName, overriddenIn])) (fun m => ef0 m p0 p1 p2) ?_
  show GoB0 l Z n0 OwnW.One1 h0 0 0 0 #[.val (.int p0), .val (.int p1), .val (.int p2), .unset, .unset, .unset, .unset, .unset, .unset, .unset] []
  refine OwnW.iconst (pc' := 1) (v := (4 : Int32)) at_0 rfl rfl ?_
  refine OwnW.newP (a0 := a0) (pc' := 3) (cap := 4) (k' := 1) (n' := 4) at_1 (hw _ (List.mem_of_getElem? (i := 0) rfl)) (by decide) (by decide) (by decide) rfl rfl (by decide) (by decide) rfl ?_
  intro h1 kc1 ad1 g1 E1 A1
  have ge_ad1 : n0 ≤ ad1 := Nat.le_trans Z0 (Nat.le_of_eq g1.symm)
  have sz_ad1 : n0 ≤ h1.size := Nat.le_trans Z0 E1.1
  have V1 : Arv Z h1 ad1 kc1 .byte (4 : Int32) [(.int (0 : Int32)), (.int (0 : Int32)), (.int (0 : Int32)), (.int (0 : Int32))] (.int (0 : Int32)) := (Arv.new A1 (by decide)).pad (pad_rep [] _ 4)
  refine OwnW.astoreN (pc' := 4) (L' := #[.val (.int p0), .val (.int p1), .val (.int p2), .val (.ref ad1), .unset, .unset, .unset, .unset, .unset, .unset]) at_3 (rfl) rfl rfl ?_
  refine OwnW.aloadN (pc' := 5) at_4 rfl (rfl) rfl ?_
  refine OwnW.iconst (pc' := 6) (v := (0 : Int32)) at_5 rfl rfl ?_
  refine OwnW.iloadN (pc' := 7) at_6 rfl rfl ?_
  refine OwnW.i2b (pc' := 8) at_7 rfl ?_
  obtain ⟨b0, hb0⟩ : ∃ z, z = (p0.toInt8.toInt32) := ⟨_, rfl⟩
  rw [← hb0]
  show GoB0 l Z n0 OwnW.One1 h1 1 4 8 #[.val (.int p0), .val (.int p1), .val (.int p2), .val (.ref ad1), .unset, .unset, .unset, .unset, .unset, .unset] [(.int b0), (.int (0 : Int32)), (.ref ad1)]
  have nb0 : nar .byte b0 = b0 := by rw [hb0]; exact own_nar _
  obtain ⟨cl2, Ar2, qk2, Sz2, Mn2, Hv2, Gf2⟩ := id V1
  refine OwnW.stB (pc' := 9) at_8 Ar2 (inb_of Sz2 ⟨by decide, by decide⟩) ge_ad1 rfl ?_
  intro h2 W2
  rw [nb0] at W2
  have sz3 : n0 ≤ h2.size := (by rw [W2.size]; exact sz_ad1)
  have V2 : Arv Z h2 ad1 kc1 .byte (4 : Int32) [(.int b0), (.int (0 : Int32)), (.int (0 : Int32)), (.int (0 : Int32))] (.int (0 : Int32)) := Arv.set Ar2 qk2 Sz2 Mn2 Hv2 Gf2 (by rw [← nb0]; exact fits_nar_byte _) W2 0 rfl (Nat.le_of_ble_eq_true rfl)
  refine OwnW.aloadN (pc' := 10) at_9 rfl (rfl) rfl ?_
  refine OwnW.iconst (pc' := 11) (v := (1 : Int32)) at_10 rfl rfl ?_
  refine OwnW.iloadN (pc' := 12) at_11 rfl rfl ?_
  refine OwnW.bipush (pc' := 14) (v := (8 : Int32)) at_12 rfl rfl ?_
  refine OwnW.ishr (pc' := 15) at_14 rfl ?_
  refine OwnW.i2b (pc' := 16) at_15 rfl ?_
  obtain ⟨b1, hb1⟩ : ∃ z, z = ((p0 >>> ((8 : Int32) &&& 31)).toInt8.toInt32) := ⟨_, rfl⟩
  rw [← hb1]
  show GoB0 l Z n0 OwnW.One1 h2 1 4 16 #[.val (.int p0), .val (.int p1), .val (.int p2), .val (.ref ad1), .unset, .unset, .unset, .unset, .unset, .unset] [(.int b1), (.int (1 : Int32)), (.ref ad1)]
  have nb1 : nar .byte b1 = b1 := by rw [hb1]; exact own_nar _
  obtain ⟨cl4, Ar4, qk4, Sz4, Mn4, Hv4, Gf4⟩ := id V2
  refine OwnW.stB (pc' := 17) at_16 Ar4 (inb_of Sz4 ⟨by decide, by decide⟩) ge_ad1 rfl ?_
  intro h4 W4
  rw [nb1] at W4
  have sz5 : n0 ≤ h4.size := (by rw [W4.size]; exact sz3)
  have V4 : Arv Z h4 ad1 kc1 .byte (4 : Int32) [(.int b0), (.int b1), (.int (0 : Int32)), (.int (0 : Int32))] (.int (0 : Int32)) := Arv.set Ar4 qk4 Sz4 Mn4 Hv4 Gf4 (by rw [← nb1]; exact fits_nar_byte _) W4 1 rfl (Nat.le_of_ble_eq_true rfl)
  refine OwnW.aloadN (pc' := 18) at_17 rfl (rfl) rfl ?_
  refine OwnW.iconst (pc' := 19) (v := (2 : Int32)) at_18 rfl rfl ?_
  refine OwnW.iloadN (pc' := 20) at_19 rfl rfl ?_
  refine OwnW.bipush (pc' := 22) (v := (16 : Int32)) at_20 rfl rfl ?_
  refine OwnW.ishr (pc' := 23) at_22 rfl ?_
  refine OwnW.i2b (pc' := 24) at_23 rfl ?_
  obtain ⟨b2, hb2⟩ : ∃ z, z = ((p0 >>> ((16 : Int32) &&& 31)).toInt8.toInt32) := ⟨_, rfl⟩
  rw [← hb2]
  show GoB0 l Z n0 OwnW.One1 h4 1 4 24 #[.val (.int p0), .val (.int p1), .val (.int p2), .val (.ref ad1), .unset, .unset, .unset, .unset, .unset, .unset] [(.int b2), (.int (2 : Int32)), (.ref ad1)]
  have nb2 : nar .byte b2 = b2 := by rw [hb2]; exact own_nar _
  obtain ⟨cl6, Ar6, qk6, Sz6, Mn6, Hv6, Gf6⟩ := id V4
  refine OwnW.stB (pc' := 25) at_24 Ar6 (inb_of Sz6 ⟨by decide, by decide⟩) ge_ad1 rfl ?_
  intro h6 W6
  rw [nb2] at W6
  have sz7 : n0 ≤ h6.size := (by rw [W6.size]; exact sz5)
  have V6 : Arv Z h6 ad1 kc1 .byte (4 : Int32) [(.int b0), (.int b1), (.int b2), (.int (0 : Int32))] (.int (0 : Int32)) := Arv.set Ar6 qk6 Sz6 Mn6 Hv6 Gf6 (by rw [← nb2]; exact fits_nar_byte _) W6 2 rfl (Nat.le_of_ble_eq_true rfl)
  refine OwnW.aloadN (pc' := 26) at_25 rfl (rfl) rfl ?_
  refine OwnW.iconst (pc' := 27) (v := (3 : Int32)) at_26 rfl rfl ?_
  refine OwnW.iloadN (pc' := 28) at_27 rfl rfl ?_
  refine OwnW.bipush (pc' := 30) (v := (24 : Int32)) at_28 rfl rfl ?_
  refine OwnW.iushr (pc' := 31) at_30 rfl ?_
  refine OwnW.i2b (pc' := 32) at_31 rfl ?_
  obtain ⟨b3, hb3⟩ : ∃ z, z = (((p0.toUInt32 >>> ((24 : Int32) &&& 31).toUInt32).toInt32).toInt8.toInt32) := ⟨_, rfl⟩
  rw [← hb3]
  show GoB0 l Z n0 OwnW.One1 h6 1 4 32 #[.val (.int p0), .val (.int p1), .val (.int p2), .val (.ref ad1), .unset, .unset, .unset, .unset, .unset, .unset] [(.int b3), (.int (3 : Int32)), (.ref ad1)]
  have nb3 : nar .byte b3 = b3 := by rw [hb3]; exact own_nar _
  obtain ⟨cl8, Ar8, qk8, Sz8, Mn8, Hv8, Gf8⟩ := id V6
  refine OwnW.stB (pc' := 33) at_32 Ar8 (inb_of Sz8 ⟨by decide, by decide⟩) ge_ad1 rfl ?_
  intro h8 W8
  rw [nb3] at W8
  have sz9 : n0 ≤ h8.size := (by rw [W8.size]; exact sz7)
  have V8 : Arv Z h8 ad1 kc1 .byte (4 : Int32) [(.int b0), (.int b1), (.int b2), (.int b3)] (.int (0 : Int32)) := Arv.set Ar8 qk8 Sz8 Mn8 Hv8 Gf8 (by rw [← nb3]; exact fits_nar_byte _) W8 3 rfl (Nat.le_of_ble_eq_true rfl)
  refine OwnW.iloadN (pc' := 34) at_33 rfl rfl ?_
  refine OwnW.ldcI (a0 := a0) (pc' := 36) (v := (2147483647 : Int32)) at_34 (hw _ (List.mem_of_getElem? (i := 1) rfl)) rfl ?_
  refine OwnW.iand (pc' := 37) at_36 rfl ?_
  refine OwnW.iconst (pc' := 38) (v := (5 : Int32)) at_37 rfl rfl ?_
  refine OwnW.irem (pc' := 39) at_38 (by decide) rfl ?_
  refine OwnW.istore (pc' := 41) (L' := #[.val (.int p0), .val (.int p1), .val (.int p2), .val (.ref ad1), .val (.int ((p1 &&& (2147483647 : Int32)) % (5 : Int32))), .unset, .unset, .unset, .unset, .unset]) at_39 rfl rfl ?_
  refine OwnW.iloadN (pc' := 42) at_41 rfl rfl ?_
  refine OwnW.ldcI (a0 := a0) (pc' := 44) (v := (2147483647 : Int32)) at_42 (hw _ (List.mem_of_getElem? (i := 1) rfl)) rfl ?_
  refine OwnW.iand (pc' := 45) at_44 rfl ?_
  refine OwnW.iconst (pc' := 46) (v := (5 : Int32)) at_45 rfl rfl ?_
  refine OwnW.irem (pc' := 47) at_46 (by decide) rfl ?_
  refine OwnW.istore (pc' := 49) (L' := #[.val (.int p0), .val (.int p1), .val (.int p2), .val (.ref ad1), .val (.int ((p1 &&& (2147483647 : Int32)) % (5 : Int32))), .val (.int ((p2 &&& (2147483647 : Int32)) % (5 : Int32))), .unset, .unset, .unset, .unset]) at_47 rfl rfl ?_
  refine OwnW.iload (pc' := 51) at_49 rfl rfl ?_
  refine OwnW.iload (pc' := 53) at_51 rfl rfl ?_
  refine OwnW.callS0 (a0 := a0) (pc' := 56) (W := 0) (k' := 1) (n' := 4) (argsL := [(.int ((p1 &&& (2147483647 : Int32)) % (5 : Int32))), (.int ((p2 &&& (2147483647 : Int32)) % (5 : Int32)))]) (rest := []) (St' := [(.int (f1 ((p1 &&& (2147483647 : Int32)) % (5 : Int32)) ((p2 &&& (2147483647 : Int32)) % (5 : Int32))))]) at_53 (hw _ (List.mem_of_getElem? (i := 2) rfl)) (hw _ (List.mem_of_getElem? (i := 3) rfl)) (hw _ (List.mem_of_getElem? (i := 4) rfl)) (hw _ (List.mem_of_getElem? (i := 5) rfl)) (by decide) (rm1 l Z a0 hw ((p1 &&& (2147483647 : Int32)) % (5 : Int32)) ((p2 &&& (2147483647 : Int32)) % (5 : Int32)) h8 n0) (by decide) (by decide) rfl rfl (by decide) (by decide) rfl pd_28II29I rfl rfl rfl (Nat.le_of_ble_eq_true rfl) rfl rfl ?_
  obtain ⟨lo, hlo⟩ : ∃ z, z = (f1 ((p1 &&& (2147483647 : Int32)) % (5 : Int32)) ((p2 &&& (2147483647 : Int32)) % (5 : Int32))) := ⟨_, rfl⟩
  rw [← hlo]
  show GoB0 l Z n0 OwnW.One1 h8 1 4 56 #[.val (.int p0), .val (.int p1), .val (.int p2), .val (.ref ad1), .val (.int ((p1 &&& (2147483647 : Int32)) % (5 : Int32))), .val (.int ((p2 &&& (2147483647 : Int32)) % (5 : Int32))), .unset, .unset, .unset, .unset] [(.int lo)]
  refine OwnW.istore (pc' := 58) (L' := #[.val (.int p0), .val (.int p1), .val (.int p2), .val (.ref ad1), .val (.int ((p1 &&& (2147483647 : Int32)) % (5 : Int32))), .val (.int ((p2 &&& (2147483647 : Int32)) % (5 : Int32))), .val (.int lo), .unset, .unset, .unset]) at_56 rfl rfl ?_
  refine OwnW.iload (pc' := 60) at_58 rfl rfl ?_
  refine OwnW.iload (pc' := 62) at_60 rfl rfl ?_
  refine OwnW.callS0 (a0 := a0) (pc' := 65) (W := 0) (k' := 1) (n' := 4) (argsL := [(.int ((p1 &&& (2147483647 : Int32)) % (5 : Int32))), (.int ((p2 &&& (2147483647 : Int32)) % (5 : Int32)))]) (rest := []) (St' := [(.int (f2 ((p1 &&& (2147483647 : Int32)) % (5 : Int32)) ((p2 &&& (2147483647 : Int32)) % (5 : Int32))))]) at_62 (hw _ (List.mem_of_getElem? (i := 6) rfl)) (hw _ (List.mem_of_getElem? (i := 7) rfl)) (hw _ (List.mem_of_getElem? (i := 4) rfl)) (hw _ (List.mem_of_getElem? (i := 8) rfl)) (by decide) (rm2 l Z a0 hw ((p1 &&& (2147483647 : Int32)) % (5 : Int32)) ((p2 &&& (2147483647 : Int32)) % (5 : Int32)) h8 n0) (by decide) (by decide) rfl rfl (by decide) (by decide) rfl pd_28II29I rfl rfl rfl (Nat.le_of_ble_eq_true rfl) rfl rfl ?_
  obtain ⟨hi, hhi⟩ : ∃ z, z = (f2 ((p1 &&& (2147483647 : Int32)) % (5 : Int32)) ((p2 &&& (2147483647 : Int32)) % (5 : Int32))) := ⟨_, rfl⟩
  rw [← hhi]
  show GoB0 l Z n0 OwnW.One1 h8 1 4 65 #[.val (.int p0), .val (.int p1), .val (.int p2), .val (.ref ad1), .val (.int ((p1 &&& (2147483647 : Int32)) % (5 : Int32))), .val (.int ((p2 &&& (2147483647 : Int32)) % (5 : Int32))), .val (.int lo), .unset, .unset, .unset] [(.int hi)]
  refine OwnW.istore (pc' := 67) (L' := #[.val (.int p0), .val (.int p1), .val (.int p2), .val (.ref ad1), .val (.int ((p1 &&& (2147483647 : Int32)) % (5 : Int32))), .val (.int ((p2 &&& (2147483647 : Int32)) % (5 : Int32))), .val (.int lo), .val (.int hi), .unset, .unset]) at_65 rfl rfl ?_
  refine OwnW.aloadN (pc' := 68) at_67 rfl (rfl) rfl ?_
  refine OwnW.iconst (pc' := 69) (v := (0 : Int32)) at_68 rfl rfl ?_
  obtain ⟨cl10, Ar10, qk10, Sz10, Mn10, Hv10, Gf10⟩ := id V8
  refine OwnW.baload (pc' := 70) (v := (.int b0)) at_69 Ar10 (inb_of Sz10 ⟨by decide, by decide⟩) (Hv10.at (inb_of Sz10 ⟨by decide, by decide⟩) rfl) rfl ?_
  refine OwnW.iconst (pc' := 71) (v := (0 : Int32)) at_70 rfl rfl ?_
  refine OwnW.iload (pc' := 73) at_71 rfl rfl ?_
  refine OwnW.iload (pc' := 75) at_73 rfl rfl ?_
  refine OwnW.callS0 (a0 := a0) (pc' := 78) (W := 0) (k' := 1) (n' := 4) (argsL := [(.int b0), (.int (0 : Int32)), (.int lo), (.int hi)]) (rest := []) (St' := [(.int (f3 b0 (0 : Int32) lo hi))]) at_75 (hw _ (List.mem_of_getElem? (i := 9) rfl)) (hw _ (List.mem_of_getElem? (i := 10) rfl)) (hw _ (List.mem_of_getElem? (i := 11) rfl)) (hw _ (List.mem_of_getElem? (i := 12) rfl)) (by decide) (rm3 l Z a0 hw b0 (0 : Int32) lo hi h8 n0) (by decide) (by decide) rfl rfl (by decide) (by decide) rfl pd_28BIII29Z rfl rfl rfl (Nat.le_of_ble_eq_true rfl) rfl rfl ?_
  suffices J78_128 : ∀ (bd : Int32), bd = (if (f3 b0 (0 : Int32) lo hi) = (0 : Int32) then (if (f3 b1 (1 : Int32) lo hi) = (0 : Int32) then (if (f3 b2 (2 : Int32) lo hi) = (0 : Int32) then (if (f3 b3 (3 : Int32) lo hi) = (0 : Int32) then (0 : Int32) else (1 : Int32)) else (1 : Int32)) else (1 : Int32)) else (1 : Int32)) → GoB0 l Z n0 OwnW.One1 h8 1 4 128 #[.val (.int p0), .val (.int p1), .val (.int p2), .val (.ref ad1), .val (.int ((p1 &&& (2147483647 : Int32)) % (5 : Int32))), .val (.int ((p2 &&& (2147483647 : Int32)) % (5 : Int32))), .val (.int lo), .val (.int hi), .unset, .unset] [(.int bd)] by
    by_cases hc78 : (f3 b0 (0 : Int32) lo hi) = (0 : Int32)
    ·
      refine OwnW.ifcN (pc' := 81) at_78 ((if0 _ _).trans (teq hc78).2) rfl ?_
      refine OwnW.aloadN (pc' := 82) at_81 rfl (rfl) rfl ?_
      refine OwnW.iconst (pc' := 83) (v := (1 : Int32)) at_82 rfl rfl ?_
      obtain ⟨cl14, Ar14, qk14, Sz14, Mn14, Hv14, Gf14⟩ := id V8
      refine OwnW.baload (pc' := 84) (v := (.int b1)) at_83 Ar14 (inb_of Sz14 ⟨by decide, by decide⟩) (Hv14.at (inb_of Sz14 ⟨by decide, by decide⟩) rfl) rfl ?_
      refine OwnW.iconst (pc' := 85) (v := (1 : Int32)) at_84 rfl rfl ?_
      refine OwnW.iload (pc' := 87) at_85 rfl rfl ?_
      refine OwnW.iload (pc' := 89) at_87 rfl rfl ?_
      refine OwnW.callS0 (a0 := a0) (pc' := 92) (W := 0) (k' := 1) (n' := 4) (argsL := [(.int b1), (.int (1 : Int32)), (.int lo), (.int hi)]) (rest := []) (St' := [(.int (f3 b1 (1 : Int32) lo hi))]) at_89 (hw _ (List.mem_of_getElem? (i := 9) rfl)) (hw _ (List.mem_of_getElem? (i := 10) rfl)) (hw _ (List.mem_of_getElem? (i := 11) rfl)) (hw _ (List.mem_of_getElem? (i := 12) rfl)) (by decide) (rm3 l Z a0 hw b1 (1 : Int32) lo hi h8 n0) (by decide) (by decide) rfl rfl (by decide) (by decide) rfl pd_28BIII29Z rfl rfl rfl (Nat.le_of_ble_eq_true rfl) rfl rfl ?_
      by_cases hc92 : (f3 b1 (1 : Int32) lo hi) = (0 : Int32)
      ·
        refine OwnW.ifcN (pc' := 95) at_92 ((if0 _ _).trans (teq hc92).2) rfl ?_
        refine OwnW.aloadN (pc' := 96) at_95 rfl (rfl) rfl ?_
        refine OwnW.iconst (pc' := 97) (v := (2 : Int32)) at_96 rfl rfl ?_
        obtain ⟨cl15, Ar15, qk15, Sz15, Mn15, Hv15, Gf15⟩ := id V8
        refine OwnW.baload (pc' := 98) (v := (.int b2)) at_97 Ar15 (inb_of Sz15 ⟨by decide, by decide⟩) (Hv15.at (inb_of Sz15 ⟨by decide, by decide⟩) rfl) rfl ?_
        refine OwnW.iconst (pc' := 99) (v := (2 : Int32)) at_98 rfl rfl ?_
        refine OwnW.iload (pc' := 101) at_99 rfl rfl ?_
        refine OwnW.iload (pc' := 103) at_101 rfl rfl ?_
        refine OwnW.callS0 (a0 := a0) (pc' := 106) (W := 0) (k' := 1) (n' := 4) (argsL := [(.int b2), (.int (2 : Int32)), (.int lo), (.int hi)]) (rest := []) (St' := [(.int (f3 b2 (2 : Int32) lo hi))]) at_103 (hw _ (List.mem_of_getElem? (i := 9) rfl)) (hw _ (List.mem_of_getElem? (i := 10) rfl)) (hw _ (List.mem_of_getElem? (i := 11) rfl)) (hw _ (List.mem_of_getElem? (i := 12) rfl)) (by decide) (rm3 l Z a0 hw b2 (2 : Int32) lo hi h8 n0) (by decide) (by decide) rfl rfl (by decide) (by decide) rfl pd_28BIII29Z rfl rfl rfl (Nat.le_of_ble_eq_true rfl) rfl rfl ?_
        by_cases hc106 : (f3 b2 (2 : Int32) lo hi) = (0 : Int32)
        ·
          refine OwnW.ifcN (pc' := 109) at_106 ((if0 _ _).trans (teq hc106).2) rfl ?_
          refine OwnW.aloadN (pc' := 110) at_109 rfl (rfl) rfl ?_
          refine OwnW.iconst (pc' := 111) (v := (3 : Int32)) at_110 rfl rfl ?_
          obtain ⟨cl16, Ar16, qk16, Sz16, Mn16, Hv16, Gf16⟩ := id V8
          refine OwnW.baload (pc' := 112) (v := (.int b3)) at_111 Ar16 (inb_of Sz16 ⟨by decide, by decide⟩) (Hv16.at (inb_of Sz16 ⟨by decide, by decide⟩) rfl) rfl ?_
          refine OwnW.iconst (pc' := 113) (v := (3 : Int32)) at_112 rfl rfl ?_
          refine OwnW.iload (pc' := 115) at_113 rfl rfl ?_
          refine OwnW.iload (pc' := 117) at_115 rfl rfl ?_
          refine OwnW.callS0 (a0 := a0) (pc' := 120) (W := 0) (k' := 1) (n' := 4) (argsL := [(.int b3), (.int (3 : Int32)), (.int lo), (.int hi)]) (rest := []) (St' := [(.int (f3 b3 (3 : Int32) lo hi))]) at_117 (hw _ (List.mem_of_getElem? (i := 9) rfl)) (hw _ (List.mem_of_getElem? (i := 10) rfl)) (hw _ (List.mem_of_getElem? (i := 11) rfl)) (hw _ (List.mem_of_getElem? (i := 12) rfl)) (by decide) (rm3 l Z a0 hw b3 (3 : Int32) lo hi h8 n0) (by decide) (by decide) rfl rfl (by decide) (by decide) rfl pd_28BIII29Z rfl rfl rfl (Nat.le_of_ble_eq_true rfl) rfl rfl ?_
          by_cases hc120 : (f3 b3 (3 : Int32) lo hi) = (0 : Int32)
          ·
            refine OwnW.ifcY (pc' := 127) at_120 ((if0 _ _).trans (teq hc120).1) (by decide) (by decide) ?_
            refine OwnW.iconst (pc' := 128) (v := (0 : Int32)) at_127 rfl rfl ?_
            exact J78_128 _ (by first | simp only [if_pos hc78, if_pos hc92, if_pos hc106, if_pos hc120] | rfl)
          ·
            refine OwnW.ifcN (pc' := 123) at_120 ((if0 _ _).trans (feq hc120).1) rfl ?_
            refine OwnW.iconst (pc' := 124) (v := (1 : Int32)) at_123 rfl rfl ?_
            refine OwnW.goto (pc' := 128) at_124 (by decide) (by decide) ?_
            exact J78_128 _ (by first | simp only [if_pos hc78, if_pos hc92, if_pos hc106, if_neg hc120] | rfl)
        ·
          refine OwnW.ifcY (pc' := 123) at_106 ((if0 _ _).trans (feq hc106).2) (by decide) (by decide) ?_
          refine OwnW.iconst (pc' := 124) (v := (1 : Int32)) at_123 rfl rfl ?_
          refine OwnW.goto (pc' := 128) at_124 (by decide) (by decide) ?_
          exact J78_128 _ (by first | simp only [if_pos hc78, if_pos hc92, if_neg hc106] | rfl)
      ·
        refine OwnW.ifcY (pc' := 123) at_92 ((if0 _ _).trans (feq hc92).2) (by decide) (by decide) ?_
        refine OwnW.iconst (pc' := 124) (v := (1 : Int32)) at_123 rfl rfl ?_
        refine OwnW.goto (pc' := 128) at_124 (by decide) (by decide) ?_
        exact J78_128 _ (by first | simp only [if_pos hc78, if_neg hc92] | rfl)
    ·
      refine OwnW.ifcY (pc' := 123) at_78 ((if0 _ _).trans (feq hc78).2) (by decide) (by decide) ?_
      refine OwnW.iconst (pc' := 124) (v := (1 : Int32)) at_123 rfl rfl ?_
      refine OwnW.goto (pc' := 128) at_124 (by decide) (by decide) ?_
      exact J78_128 _ (by first | simp only [if_neg hc78] | rfl)
  intro bd hbd
  refine OwnW.istore (pc' := 130) (L' := #[.val (.int p0), .val (.int p1), .val (.int p2), .val (.ref ad1), .val (.int ((p1 &&& (2147483647 : Int32)) % (5 : Int32))), .val (.int ((p2 &&& (2147483647 : Int32)) % (5 : Int32))), .val (.int lo), .val (.int hi), .val (.int bd), .unset]) at_128 rfl rfl ?_
  refine OwnW.iload (pc' := 132) at_130 rfl rfl ?_
  suffices J132_140 : ∀ (exp : Int32), exp = (if bd = (0 : Int32) then (1 : Int32) else (0 : Int32)) → GoB0 l Z n0 OwnW.One1 h8 1 4 140 #[.val (.int p0), .val (.int p1), .val (.int p2), .val (.ref ad1), .val (.int ((p1 &&& (2147483647 : Int32)) % (5 : Int32))), .val (.int ((p2 &&& (2147483647 : Int32)) % (5 : Int32))), .val (.int lo), .val (.int hi), .val (.int bd), .unset] [(.int exp)] by
    by_cases hc132 : bd = (0 : Int32)
    ·
      refine OwnW.ifcN (pc' := 135) at_132 ((if0 _ _).trans (teq hc132).2) rfl ?_
      refine OwnW.iconst (pc' := 136) (v := (1 : Int32)) at_135 rfl rfl ?_
      refine OwnW.goto (pc' := 140) at_136 (by decide) (by decide) ?_
      exact J132_140 _ (by first | simp only [if_pos hc132] | rfl)
    ·
      refine OwnW.ifcY (pc' := 139) at_132 ((if0 _ _).trans (feq hc132).2) (by decide) (by decide) ?_
      refine OwnW.iconst (pc' := 140) (v := (0 : Int32)) at_139 rfl rfl ?_
      exact J132_140 _ (by first | simp only [if_neg hc132] | rfl)
  intro exp hexp
  refine OwnW.istore (pc' := 142) (L' := #[.val (.int p0), .val (.int p1), .val (.int p2), .val (.ref ad1), .val (.int ((p1 &&& (2147483647 : Int32)) % (5 : Int32))), .val (.int ((p2 &&& (2147483647 : Int32)) % (5 : Int32))), .val (.int lo), .val (.int hi), .val (.int bd), .val (.int exp)]) at_140 rfl rfl ?_
  refine OwnW.aloadN (pc' := 143) at_142 rfl (rfl) rfl ?_
  refine OwnW.iload (pc' := 145) at_143 rfl rfl ?_
  refine OwnW.iload (pc' := 147) at_145 rfl rfl ?_
  refine OwnW.callS0 (a0 := a0) (pc' := 150) (W := 0) (k' := 1) (n' := 4) (argsL := [(.ref ad1), (.int lo), (.int hi)]) (rest := []) (St' := [(.int (own_ha ad1 lo hi kc1 b0 b1 b2 b3))]) at_147 (hw _ (List.mem_of_getElem? (i := 13) rfl)) (hw _ (List.mem_of_getElem? (i := 14) rfl)) (hw _ (List.mem_of_getElem? (i := 15) rfl)) (hw _ (List.mem_of_getElem? (i := 16) rfl)) (by decide) (rm4 l Z a0 hw ad1 lo hi kc1 b0 b1 b2 b3 h8 n0 V8 (own_pairs hlo hhi)) (by decide) (by decide) rfl rfl (by decide) (by decide) rfl pd_285bBII29Z rfl rfl rfl (Nat.le_of_ble_eq_true rfl) rfl rfl ?_
  refine OwnW.iload (pc' := 152) at_150 rfl rfl ?_
  by_cases hc152 : (own_ha ad1 lo hi kc1 b0 b1 b2 b3) = exp
  ·
    refine OwnW.icmpN (pc' := 155) at_152 (teq hc152).2 rfl ?_
    refine OwnW.iconst (pc' := 156) (v := (1 : Int32)) at_155 rfl rfl ?_
    refine OwnW.goto (pc' := 160) at_156 (by decide) (by decide) ?_
    exact OwnW.retN (t := .boolean) at_160 rfl (by simp) rfl (by decide) (by decide) (rfl)
  ·
    refine OwnW.icmpY (pc' := 159) at_152 (feq hc152).2 (by decide) (by decide) ?_
    refine OwnW.iconst (pc' := 160) (v := (0 : Int32)) at_159 rfl rfl ?_
    exact OwnW.retN (t := .boolean) at_160 rfl (by simp) rfl (by decide) (by decide) (absurd (own_law hbd hexp) hc152)
set_option maxRecDepth 65536 in
set_option maxHeartbeats 400000000 in
theorem comes_1 {Post : Tables → Env → Array Value → State → Outcome → State → Prop} (hpost : ∀ tb e args s v u, (limb_1_1.after args s (.returned v) u = true ∧ limb_1_2.after args s (.returned v) u = true ∧ True) → FrameEnd s (.returned v) u (Jvm.fieldLocs frame_1_writes args s ++ Jvm.arrayLocs frame_1_arrays args s ++ Jvm.staticLocs frame_1_statics s) 16 128 → Post tb e args s (.returned v) u) :
    ArmFor flags0 classFile x code maxLocals ret World_1 tables_1 room_1 Calls_1 rest_1 Pre_1 Post := by
  intro l hfl _ _ p e ha hc hk s m args below hf hA hF happ hP
  obtain ⟨hcalls, hrest, hpre⟩ := hP
  obtain ⟨-, -, -, hnamed, -, -, -, hat⟩ := (Spec.applies_iff hf).mp happ
  obtain ⟨hg, hn⟩ := and_e (Cond.before_iff.mp (show (Jvm.Cond.and given_1 narrow_1).before args s = true from hpre))
  obtain ⟨hcount, hr0⟩ := and_e hg
  obtain ⟨w0, w1, w2, rfl⟩ : ∃ w0 w1 w2 : Value, args = #[w0, w1, w2] := by
    have hs : args.size = 3 := by simpa [Cond.value, given_1] using hcount
    obtain ⟨L⟩ := args
    match L, hs with
    | [w0, w1, w2], _ => exact ⟨w0, w1, w2, rfl⟩
  have hw := fun d (hd : d ∈ tables_1) => atoms_spec (ws := Jvm.Cond.code x code maxLocals ret :: tables_1) hat d (List.mem_cons_of_mem _ hd)
  have hfit : Fit s := fun {y c} hc i hi => by
    obtain ⟨ha, rfl⟩ := Array.getElem?_eq_some_iff.mp hc
    have q := List.all_eq_true.mp ((Array.all_eq_true_iff_forall_mem.mp hF) _ (Array.getElem_mem ha)) i (List.mem_range.mpr hi)
    simpa [Array.getElem?_eq_getElem hi] using q
  obtain ⟨hq0, hr1⟩ := and_e hr0
  obtain ⟨i0, ei0⟩ := is_v hq0
  obtain rfl : w0 = (.int i0) := Option.some.inj ei0
  obtain ⟨hq1, hr2⟩ := and_e hr1
  obtain ⟨i1, ei1⟩ := is_v hq1
  obtain rfl : w1 = (.int i1) := Option.some.inj ei1
  obtain ⟨i2, ei2⟩ := is_v hr2
  obtain rfl : w2 = (.int i2) := Option.some.inj ei2
  obtain ⟨n, o, h1, h2, h3, _, L, rfl, ⟨rfl, N⟩, hq⟩ := rm0 l s _ hw i0 i1 i2 s.heap s.heap.size (Nat.le_refl _) tables_1 p e ha hc hk s m _ below hf ((Spec.applies_iff_loose hf).mp happ).1 ⟨rfl, State.Warmed39.refl s, rfl⟩ trivial
  refine ⟨n, _, h1, h2, h3, hpost _ _ _ _ _ _ ⟨Cond.after_iff.mpr rfl, Cond.after_iff.mpr (eq_i res_at (Term.int_eval (1)) rfl), trivial⟩ ⟨hq.1, hq.2.1, (hq.2.2.sift fun y hy => Or.inr (N y hy)).mono (by decide) (by decide)⟩⟩
theorem main_1_1 : Claimed_1_1 := comes_1 fun _ _ _ _ _ _ h hF => ⟨h.1, hF⟩
theorem main_1_2 : Claimed_1_2 := comes_1 fun _ _ _ _ _ _ h hF => ⟨h.2.1, hF⟩
end Jvm.Pilot.@@N@@
namespace Jvm.Pilot.@@N@@
open Jvm Jvm.ClassFile Sem Op Lib Jvm.Free Jvm.Stand Jvm.Pilot.@@N@@.Jvm.D
/-! MADE BY PROGRAM (witnessworld.py) out of the Statement's table words and the real class files: 11 classes; the members and pool entries that the words name. The judged class is class 1, her method 1. -/
namespace start1
open Jvm.ClassFile
def u (s : String) : CpInfo := .utf8 (stringToUtf16 s)
/-- a pool by its gaps: so many unusable entries, then the entry; so many at the end -/
def gap : Nat → List CpInfo → List CpInfo
  | 0, r => r
  | n + 1, r => .unusable :: gap n r
def poolList (es : List (Nat × CpInfo)) (last : Nat) : List CpInfo := es.foldr (fun e r => gap e.1 (e.2 :: r)) (gap last [])
def pool (es : List (Nat × CpInfo)) (last : Nat) : Array CpInfo := ⟨poolList es last⟩
def fileOf (pool : Array CpInfo) (this : Nat) (attrs : Array Attribute := #[]) (ms : Array MethodInfo := #[]) (fl : Nat := 33) (sup : Nat := 0) (ifs : Array Nat := #[]) (fds : Array FieldInfo := #[]) : ClassFile where
  minorVersion := 0
  majorVersion := 65
  constantPool := pool
  accessFlags := fl
  thisClass := this
  superClass := sup
  interfaces := ifs
  fields := fds
  methods := ms
  attributes := attrs
def plain (name : String) (sup : Option ClassId) : Class where
  name := name
  kind := .ordinary
  loader := none
  accessFlags := 33
  super := sup
  interfaces := #[]
  cf := none
  fields := #[]
  methods := #[]
  instanceTypes := #[]
  staticTypes := #[]
  resolved := #[]
  callSites := []
  init := .initialized
  statics := none
  mirror := none

def pool0 : Array CpInfo := pool [(5, u "<init>"), (0, u "()V"), (1, .class_ 10), (1, u "java/lang/Object")] 113

def k0m0 : Method := { name := "<init>", desc := "()V", sig := { parameters := [], returnType := none }, accessFlags := 1, code := none }
/-- java/lang/Object -/
def k0 : Class := { plain "java/lang/Object" none with
  accessFlags := 33
  interfaces := #[]
  cf := some (fileOf pool0 8 #[] #[{ accessFlags := 1, nameIndex := 5, descriptorIndex := 6, attributes := #[] }] 33 0 #[] #[])
  fields := #[]
  methods := #[k0m0]
  instanceTypes := #[]
  staticTypes := #[]
  resolved := Array.replicate 124 none
  statics := none }

def pool1 : Array CpInfo := pool [(2, .class_ 4), (1, u "java/lang/Object"), (0, u "<init>"), (0, u "()V"), (0, .integer 2147483647), (0, .methodref 9 10), (0, .class_ 11), (0, .nameAndType 12 13), (0, u "java/lang/Math"), (0, u "min"), (0, u "(II)I"), (0, .methodref 9 15), (0, .nameAndType 16 13), (0, u "max"), (0, .methodref 18 19), (0, .class_ 20), (0, .nameAndType 21 22), (0, u "com/example/sieve_for_links/sieveforlinks/AsciiTextHoldsAsciiPinLaw"), (0, u "bad"), (0, u "(BIII)Z"), (0, .methodref 24 25), (0, .class_ 26), (0, .nameAndType 27 28), (0, u "com/example/sieve_for_links/sieveforlinks/AsciiText"), (0, u "holdsAscii"), (0, u "([BII)Z"), (2, u "law"), (0, u "(III)Z")] 5

def k1m0 : Method := { name := "<init>", desc := "()V", sig := { parameters := [], returnType := none }, accessFlags := 1, code := none }
def k1c1 : Code := { maxStack := 4, maxLocals := 10, code := code, exceptionTable := #[], attributes := #[] }
def k1m1 : Method := { name := "law", desc := "(III)Z", sig := { parameters := [.int, .int, .int], returnType := some .boolean }, accessFlags := 9, code := some k1c1 }
def k1c2 : Code := { maxStack := 2, maxLocals := 4, code := method_3_code, exceptionTable := #[], attributes := #[] }
def k1m2 : Method := { name := "bad", desc := "(BIII)Z", sig := { parameters := [.byte, .int, .int, .int], returnType := some .boolean }, accessFlags := 10, code := some k1c2 }
/-- com/example/sieve_for_links/sieveforlinks/AsciiTextHoldsAsciiPinLaw -/
def k1 : Class := { plain "com/example/sieve_for_links/sieveforlinks/AsciiTextHoldsAsciiPinLaw" (some 0) with
  accessFlags := 49
  interfaces := #[]
  cf := some (fileOf pool1 18 #[] #[{ accessFlags := 1, nameIndex := 5, descriptorIndex := 6, attributes := #[] }, { accessFlags := 9, nameIndex := 31, descriptorIndex := 32, attributes := #[] }, { accessFlags := 10, nameIndex := 21, descriptorIndex := 22, attributes := #[] }] 49 2 #[] #[])
  fields := #[]
  methods := #[k1m0, k1m1, k1m2]
  instanceTypes := #[]
  staticTypes := #[]
  resolved := Array.replicate 38 none
  statics := none }

def pool2 : Array CpInfo := pool [(1, .class_ 2), (0, u "java/lang/Math"), (1, .class_ 6), (1, u "java/lang/Object"), (0, u "<init>"), (0, u "()V"), (89, .class_ 100), (1, u "java/lang/Math$RandomNumberGeneratorHolder"), (71, u "negativeZeroFloatBits"), (0, u "J"), (2, u "negativeZeroDoubleBits"), (21, u "max"), (2, u "min"), (43, u "$assertionsDisabled"), (0, u "Z"), (88, u "(II)I"), (2, u "twoToTheDoubleScaleDown"), (0, u "D"), (4, u "twoToTheDoubleScaleUp"), (9, u "E"), (3, u "PI"), (2, u "TAU"), (2, u "DEGREES_TO_RADIANS"), (0, u "RADIANS_TO_DEGREES")] 94

def k2m0 : Method := { name := "<init>", desc := "()V", sig := { parameters := [], returnType := none }, accessFlags := 2, code := none }
def k2c1 : Code := { maxStack := 2, maxLocals := 2, code := jdk_29_method_65_code, exceptionTable := #[], attributes := #[] }
def k2m1 : Method := { name := "max", desc := "(II)I", sig := { parameters := [.int, .int], returnType := some .int }, accessFlags := 9, code := some k2c1 }
def k2c2 : Code := { maxStack := 2, maxLocals := 2, code := jdk_29_method_69_code, exceptionTable := #[], attributes := #[] }
def k2m2 : Method := { name := "min", desc := "(II)I", sig := { parameters := [.int, .int], returnType := some .int }, accessFlags := 9, code := some k2c2 }
/-- java/lang/Math -/
def k2 : Class := { plain "java/lang/Math" (some 0) with
  accessFlags := 49
  interfaces := #[]
  cf := some (fileOf pool2 1 #[.nestMembers #[98]] #[{ accessFlags := 2, nameIndex := 7, descriptorIndex := 8, attributes := #[] }, { accessFlags := 9, nameIndex := 198, descriptorIndex := 335, attributes := #[] }, { accessFlags := 9, nameIndex := 201, descriptorIndex := 335, attributes := #[] }] 49 4 #[] #[{ accessFlags := 25, nameIndex := 354, descriptorIndex := 339, attributes := #[] }, { accessFlags := 25, nameIndex := 358, descriptorIndex := 339, attributes := #[] }, { accessFlags := 25, nameIndex := 361, descriptorIndex := 339, attributes := #[] }, { accessFlags := 26, nameIndex := 364, descriptorIndex := 339, attributes := #[] }, { accessFlags := 26, nameIndex := 365, descriptorIndex := 339, attributes := #[] }, { accessFlags := 26, nameIndex := 172, descriptorIndex := 173, attributes := #[] }, { accessFlags := 26, nameIndex := 176, descriptorIndex := 173, attributes := #[] }, { accessFlags := 8, nameIndex := 344, descriptorIndex := 339, attributes := #[] }, { accessFlags := 8, nameIndex := 338, descriptorIndex := 339, attributes := #[] }, { accessFlags := 4120, nameIndex := 245, descriptorIndex := 246, attributes := #[] }])
  fields := #[{ name := "E", type := .double, accessFlags := 25, slot := 0, constantValue := 0 }, { name := "PI", type := .double, accessFlags := 25, slot := 1, constantValue := 0 }, { name := "TAU", type := .double, accessFlags := 25, slot := 2, constantValue := 0 }, { name := "DEGREES_TO_RADIANS", type := .double, accessFlags := 26, slot := 3, constantValue := 0 }, { name := "RADIANS_TO_DEGREES", type := .double, accessFlags := 26, slot := 4, constantValue := 0 }, { name := "negativeZeroFloatBits", type := .long, accessFlags := 26, slot := 5, constantValue := 0 }, { name := "negativeZeroDoubleBits", type := .long, accessFlags := 26, slot := 6, constantValue := 0 }, { name := "twoToTheDoubleScaleUp", type := .double, accessFlags := 8, slot := 7, constantValue := 0 }, { name := "twoToTheDoubleScaleDown", type := .double, accessFlags := 8, slot := 8, constantValue := 0 }, { name := "$assertionsDisabled", type := .boolean, accessFlags := 4120, slot := 9, constantValue := 0 }]
  methods := #[k2m0, k2m1, k2m2]
  instanceTypes := #[]
  staticTypes := #[.double, .double, .double, .double, .double, .long, .long, .double, .double, .boolean]
  resolved := Array.replicate 460 none
  statics := none }

def pool3 : Array CpInfo := pool [(2, .class_ 4), (1, u "java/lang/CharSequence"), (42, .class_ 48), (0, u "java/lang/CharSequence$1CodePointIterator"), (10, .class_ 60), (0, u "java/lang/CharSequence$1CharIterator"), (5, .class_ 67), (0, u "java/lang/Object")] 63

/-- java/lang/CharSequence -/
def k3 : Class := { plain "java/lang/CharSequence" (some 0) with
  accessFlags := 1537
  interfaces := #[]
  cf := some (fileOf pool3 2 #[.nestMembers #[47, 59]] #[] 1537 66 #[] #[])
  fields := #[]
  methods := #[]
  instanceTypes := #[]
  staticTypes := #[]
  resolved := Array.replicate 131 none
  statics := none }

def pool4 : Array CpInfo := pool [(2, .class_ 4), (1, u "java/lang/Object"), (0, u "<init>"), (0, u "()V"), (1, .class_ 10), (1, u "com/example/sieve_for_links/sieveforlinks/AsciiText"), (0, u "bytes"), (0, u "[B"), (2, u "start"), (0, u "I"), (2, u "length"), (27, .class_ 48), (0, u "java/lang/CharSequence"), (4, u "holdsAscii"), (0, u "([BII)Z")] 12

def k4m0 : Method := { name := "<init>", desc := "()V", sig := { parameters := [], returnType := none }, accessFlags := 0, code := none }
def k4c1 : Code := { maxStack := 2, maxLocals := 4, code := prog_1_method_3_code, exceptionTable := #[], attributes := #[] }
def k4m1 : Method := { name := "holdsAscii", desc := "([BII)Z", sig := { parameters := [(.array .byte), .int, .int], returnType := some .boolean }, accessFlags := 8, code := some k4c1 }
/-- com/example/sieve_for_links/sieveforlinks/AsciiText -/
def k4 : Class := { plain "com/example/sieve_for_links/sieveforlinks/AsciiText" (some 0) with
  accessFlags := 48
  interfaces := #[3]
  cf := some (fileOf pool4 8 #[] #[{ accessFlags := 0, nameIndex := 5, descriptorIndex := 6, attributes := #[] }, { accessFlags := 8, nameIndex := 53, descriptorIndex := 54, attributes := #[] }] 48 2 #[47] #[{ accessFlags := 2, nameIndex := 11, descriptorIndex := 12, attributes := #[] }, { accessFlags := 2, nameIndex := 15, descriptorIndex := 16, attributes := #[] }, { accessFlags := 2, nameIndex := 19, descriptorIndex := 16, attributes := #[] }])
  fields := #[{ name := "bytes", type := (.array .byte), accessFlags := 2, slot := 0, constantValue := 0 }, { name := "start", type := .int, accessFlags := 2, slot := 1, constantValue := 0 }, { name := "length", type := .int, accessFlags := 2, slot := 2, constantValue := 0 }]
  methods := #[k4m0, k4m1]
  instanceTypes := #[(.array .byte), .int, .int]
  staticTypes := #[]
  resolved := Array.replicate 67 none
  statics := none }

def pool5 : Array CpInfo := pool [(1, u "java/lang/Cloneable"), (0, .class_ 1), (0, u "java/lang/Object"), (0, .class_ 3)] 3

/-- java/lang/Cloneable -/
def k5 : Class := { plain "java/lang/Cloneable" (some 0) with
  accessFlags := 1537
  interfaces := #[]
  cf := some (fileOf pool5 2 #[] #[] 1537 4 #[] #[])
  fields := #[]
  methods := #[]
  instanceTypes := #[]
  staticTypes := #[]
  resolved := Array.replicate 8 none
  statics := none }

def pool6 : Array CpInfo := pool [(1, u "java/io/Serializable"), (0, .class_ 1), (0, u "java/lang/Object"), (0, .class_ 3)] 3

/-- java/io/Serializable -/
def k6 : Class := { plain "java/io/Serializable" (some 0) with
  accessFlags := 1537
  interfaces := #[]
  cf := some (fileOf pool6 2 #[] #[] 1537 4 #[] #[])
  fields := #[]
  methods := #[]
  instanceTypes := #[]
  staticTypes := #[]
  resolved := Array.replicate 8 none
  statics := none }

/-- the primitive byte -/
def k7 : Class := { plain "byte" none with kind := .primitive 'B', accessFlags := 0x411 }
/-- [B -/
def k8 : Class := { plain "[B" (some 0) with kind := .array 7 .byte, interfaces := #[5, 6], accessFlags := 1041 }

/-- the primitive int -/
def k9 : Class := { plain "int" none with kind := .primitive 'I', accessFlags := 0x411 }
/-- [I -/
def k10 : Class := { plain "[I" (some 0) with kind := .array 9 .int, interfaces := #[5, 6], accessFlags := 1041 }

def heap : Heap := #[]
def classes : Array Class := #[k0, k1, k2, k3, k4, k5, k6, k7, k8, k9, k10]
def interned : List (Array UInt16 × Addr) := []
def slotsUsed : Nat := 0
def theMethod : MethodId := ⟨1, 1⟩
def args0 : Array Value := #[.int 5, .int 5, .int 5]
def aboutOver (below : List Frame) : State where
  vm := { classes := classes, interned := interned.toArray }
  heap := heap
  slotsUsed := slotsUsed
  threads := #[{ frames := .invoking theMethod args0 :: below }]
def below0 : List Frame := [.native { method := ⟨0, 0⟩, args := #[] }]
def about1 : State := aboutOver below0
def p0 : Program := .bare "" "" ""
def e0 : Env := launch0.env 0 0 0
theorem w_frames : about1.frames = Frame.invoking theMethod args0 :: below0 := rfl
set_option maxRecDepth 65536 in
theorem w_args : argsFit about1.vm theMethod args0 = true := by decide +kernel
set_option maxRecDepth 65536 in
theorem w_heap : heapFits about1 = true := by decide +kernel
set_option maxRecDepth 65536 in
theorem w_runnable : about1.curStatus? = some .runnable := by decide +kernel
set_option maxRecDepth 65536 in
theorem w_alone : about1.alone = true := by decide +kernel
set_option maxRecDepth 65536 in
theorem w_named : about1.methodNamed? x = some theMethod := by decide +kernel
set_option maxRecDepth 65536 in
theorem w_hears : about1.hears theMethod below0 = true := by decide +kernel
set_option maxRecDepth 65536 in
theorem w_ripe : about1.ripe theMethod args0 below0 = true := by decide +kernel
theorem w_running : about1.status = .running := rfl
set_option maxRecDepth 65536 in
theorem w_room : about1.hasRoom e0.platform room_1 = true :=
  launch0.hasRoom_least _ room_1 (by decide +kernel) (by decide +kernel) (by decide +kernel) (by decide +kernel) (by decide +kernel) (by decide +kernel)
theorem allAtoms_all (ts : List Jvm.Cond) (a : Array Jvm.Value) (st : Jvm.State) : (allAtoms ts).before a st = ts.all (fun c => c.before a st) := by
  induction ts with
  | nil => rfl
  | cons c t ih =>
    show (Jvm.Cond.and c (allAtoms t)).before a st = _
    rw [Jvm.Cond.before_and, ih, List.all_cons]
def words1 : List Jvm.Cond := Jvm.Cond.code x code maxLocals ret :: tables_1
/-- a 'code' word, met by the world's own term for the bytes: nothing is compared byte by byte -/
theorem code_word {y : MethodName} {bytes : ByteArray} {mx : Nat} {rt : Option FieldType} {a : Array Value} {s : State} {m : MethodId} {meth : Method} {c : Code} (h1 : s.methodNamed? y = some m) (h2 : s.vm.method? m = some meth) (h3 : meth.code = some c) (h4 : c.code = bytes)
    (h5 : (c.maxLocals == mx && c.exceptionTable.isEmpty && decide (c.maxStack ≤ mostOperands) && decide (meth.sig.returnType = rt) && !meth.locks && decide (parseMethodDescriptor y.desc = some meth.sig)) = true) : (Jvm.Cond.code y bytes mx rt).before a s = true := by
  simp only [Bool.and_eq_true, beq_iff_eq, Bool.not_eq_true', decide_eq_true_eq] at h5
  obtain ⟨⟨⟨⟨⟨g1, g2⟩, g3⟩, g4⟩, g5⟩, g6⟩ := h5
  simp [Cond.before, Cond.holds, Cond.value, h1, h2, h3, h4, g1, g2, g3, g4, g5, g6]
def isCode : Jvm.Cond → Bool
  | .code _ _ _ _ => true
  | _ => false
theorem all_split {L : List Jvm.Cond} {P : Jvm.Cond → Bool} (h1 : L.all (fun c => isCode c || P c) = true) (h2 : ∀ c ∈ L.filter isCode, P c = true) : L.all P = true := by
  refine List.all_eq_true.mpr fun c hc => ?_
  have h := List.all_eq_true.mp h1 c hc
  rcases Bool.eq_false_or_eq_true (isCode c) with hi | hi
  · exact h2 c (List.mem_filter.mpr ⟨hc, hi⟩)
  · simpa [hi] using h
set_option maxRecDepth 65536 in
theorem w_c0 : (Jvm.Cond.code x code maxLocals ret).before args0 about1 = true := code_word (m := ⟨1, 1⟩) (meth := k1m1) (c := k1c1) (by decide +kernel) rfl rfl rfl (by decide +kernel)
set_option maxRecDepth 65536 in
theorem w_c1 : (Jvm.Cond.code ({ cls := "java/lang/Math", name := "min", desc := "(II)I" } : Jvm.MethodName) jdk_29_method_69_code (2 : Nat) (Option.some Jvm.ClassFile.FieldType.int)).before args0 about1 = true := code_word (m := ⟨2, 2⟩) (meth := k2m2) (c := k2c2) (by decide +kernel) rfl rfl rfl (by decide +kernel)
set_option maxRecDepth 65536 in
theorem w_c2 : (Jvm.Cond.code ({ cls := "java/lang/Math", name := "max", desc := "(II)I" } : Jvm.MethodName) jdk_29_method_65_code (2 : Nat) (Option.some Jvm.ClassFile.FieldType.int)).before args0 about1 = true := code_word (m := ⟨2, 1⟩) (meth := k2m1) (c := k2c1) (by decide +kernel) rfl rfl rfl (by decide +kernel)
set_option maxRecDepth 65536 in
theorem w_c3 : (Jvm.Cond.code ({ cls := "com/example/sieve_for_links/sieveforlinks/AsciiTextHoldsAsciiPinLaw", name := "bad", desc := "(BIII)Z" } : Jvm.MethodName) method_3_code (4 : Nat) (Option.some Jvm.ClassFile.FieldType.boolean)).before args0 about1 = true := code_word (m := ⟨1, 2⟩) (meth := k1m2) (c := k1c2) (by decide +kernel) rfl rfl rfl (by decide +kernel)
set_option maxRecDepth 65536 in
theorem w_c4 : (Jvm.Cond.code ({ cls := "com/example/sieve_for_links/sieveforlinks/AsciiText", name := "holdsAscii", desc := "([BII)Z" } : Jvm.MethodName) prog_1_method_3_code (4 : Nat) (Option.some Jvm.ClassFile.FieldType.boolean)).before args0 about1 = true := code_word (m := ⟨4, 1⟩) (meth := k4m1) (c := k4c1) (by decide +kernel) rfl rfl rfl (by decide +kernel)
def codes1 : List Jvm.Cond := [Jvm.Cond.code x code maxLocals ret, Jvm.Cond.code ({ cls := "java/lang/Math", name := "min", desc := "(II)I" } : Jvm.MethodName) jdk_29_method_69_code (2 : Nat) (Option.some Jvm.ClassFile.FieldType.int), Jvm.Cond.code ({ cls := "java/lang/Math", name := "max", desc := "(II)I" } : Jvm.MethodName) jdk_29_method_65_code (2 : Nat) (Option.some Jvm.ClassFile.FieldType.int), Jvm.Cond.code ({ cls := "com/example/sieve_for_links/sieveforlinks/AsciiTextHoldsAsciiPinLaw", name := "bad", desc := "(BIII)Z" } : Jvm.MethodName) method_3_code (4 : Nat) (Option.some Jvm.ClassFile.FieldType.boolean), Jvm.Cond.code ({ cls := "com/example/sieve_for_links/sieveforlinks/AsciiText", name := "holdsAscii", desc := "([BII)Z" } : Jvm.MethodName) prog_1_method_3_code (4 : Nat) (Option.some Jvm.ClassFile.FieldType.boolean)]
set_option maxRecDepth 65536 in
theorem codes_eq : words1.filter isCode = codes1 := rfl
theorem w_codes : ∀ c ∈ words1.filter isCode, c.before args0 about1 = true := by
  rw [codes_eq]
  intro c hc
  simp only [codes1, List.mem_cons, List.not_mem_nil, or_false] at hc
  rcases hc with rfl | rfl | rfl | rfl | rfl
  · exact w_c0
  · exact w_c1
  · exact w_c2
  · exact w_c3
  · exact w_c4
set_option maxRecDepth 65536 in
theorem w_t1 : words1.all (fun c => isCode c || c.before args0 about1) = true := by decide +kernel
theorem w_tables : (allAtoms (Jvm.Cond.code x code maxLocals ret :: tables_1)).before args0 about1 = true := by
  rw [allAtoms_all]
  show words1.all (fun c => c.before args0 about1) = true
  refine all_split ?_ w_codes
  rw [w_t1]
set_option maxRecDepth 65536 in
theorem w_case : (Jvm.Cond.and given_1 narrow_1).before args0 about1 = true := by decide +kernel
theorem w_applies : (headSpec (Jvm.Cond.code x code maxLocals ret :: tables_1) room_1).applies x e0.platform about1 = true :=
  (Spec.applies_iff w_frames).mpr ⟨w_running, w_runnable, w_alone, w_named, w_hears, w_ripe, w_room, w_tables⟩
theorem atStart : AtStart classFile x code maxLocals ret World_1 tables_1 room_1 Calls_1 rest_1 Pre_1 launch0 p0 e0 about1 theMethod args0 below0 :=
  ⟨lists_1, trivial, launch0.admits_env _ _ _, launch0.least_env, fairChoices_fair.cas, fairChoices_fair.clock, w_frames, w_args, w_heap, w_applies, trivial, trivial, w_case⟩
end start1
theorem witness_1 : WitnessClaimed_1 := ⟨start1.p0, start1.e0, start1.about1, start1.theMethod, start1.args0, start1.below0, start1.atStart⟩
end Jvm.Pilot.@@N@@
