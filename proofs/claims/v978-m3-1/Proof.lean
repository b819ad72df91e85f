import JvmDerived
import JvmDerived.Pilot.@@N@@Statement
import JvmDerived.Pilot.@@N@@Code
set_option linter.unusedVariables false
set_option linter.unusedSimpArgs false
namespace Jvm.OwnW
open Sem ClassFile Op Lib Jvm.Stand Jvm.Free Jvm.LawKit Jvm.RoadKit
/-- what a walk knows of its method and of the run -/
def Cx (p : Program) (s : State) (m : MethodId) (meth : Method) (c : Code) (Z : State) (y : MethodName) (bs : ByteArray) (ml : Nat) (ret : Option FieldType) : Prop :=
  p.tables.exec = Jvm.exec ∧ c.code = bs ∧ c.maxLocals = ml ∧ s.vm.findClass y.cls = some m.cls ∧ meth.name = y.name ∧ meth.sig.returnType = ret ∧ meth.locks = false ∧ Z.Warmed39 s.vm
/-- from the state u the body comes to its end, returns v and leaves the heap as Q says; it wrote cells from n0 on alone -/
def Runs (p : Program) (e : Env) (below : List Frame) (s : State) (R : Room) (n0 : Nat) (Q : Option Value → Heap → Prop) (u : State) : Prop :=
  ∃ s₂ o, Steps p.tables e below u s₂ ∧ s₂.status = .running ∧ Ended s₂ below o ∧ ∃ v Ls, o = .returned v ∧ (Q v s₂.heap ∧ Fr n0 Ls) ∧ FrameEnd s o s₂ Ls R.cells R.slots
/-- from pc with these locals and this stack, the heap being h, k cells and n slots made so far: the body ends as Q says -/
def Go (l : Launch) (Z : State) (R : Room) (y : MethodName) (bs : ByteArray) (ml : Nat) (ret : Option FieldType) (n0 : Nat) (Q : Option Value → Heap → Prop) (h : Heap) (k n : Nat) (pc : Nat) (L : Array Slot) (St : List Value) : Prop :=
  ∀ (p : Program) (e : Env) (s : State) (m : MethodId) (args : Array Value) (below : List Frame) (meth : Method) (c : Code) (T : State) (locs : List Loc),
    Cx p s m meth c Z y bs ml ret → Stand p l e R s m args below meth c T locs k n → Fr n0 locs → T.heap = h → Runs p e below s R n0 Q (T.setTop (mkF m pc L St))
/-- it returns r, the heap as it was -/
def Ret (r : Option Value) (h0 : Heap) : Option Value → Heap → Prop := fun v h => v = r ∧ h0 = h
/-- the law says 1 -/
def One1 : Option Value → Heap → Prop := fun v _ => v = some (.int 1)
/-- the body's contract -/
def Con (l : Launch) (Z : State) (R : Room) (y : MethodName) (bs : ByteArray) (ml : Nat) (ret : Option FieldType) (n0 : Nat) (as' : Array Value) (h : Heap) (Q : Option Value → Heap → Prop) : Prop :=
  ∀ ws, MetFree l y (head1 (Jvm.Cond.code y bs ml ret :: ws) R) (fun a U => a = as' ∧ Z.Warmed39 U.vm ∧ U.heap = h) (fun _ _ _ _ _ => True) (fun _ U o U' => ∃ v Ls, o = .returned v ∧ (Q v U'.heap ∧ Fr n0 Ls) ∧ FrameEnd U o U' Ls R.cells R.slots)
theorem Runs.thru {p : Program} {e : Env} {below : List Frame} {s : State} {R : Room} {n0 : Nat} {Q : Option Value → Heap → Prop} {u u' : State} (q : Runs p e below s R n0 Q u') (st : ∀ t, Steps p.tables e below u' t → Steps p.tables e below u t) : Runs p e below s R n0 Q u := by
  obtain ⟨s₂, o, h1, r⟩ := q
  exact ⟨s₂, o, st _ h1, r⟩
/-- what stood in h0 stands in h -/
theorem ext_refl (h : Heap) : Ext h h := ⟨Nat.le_refl _, fun _ _ q => q⟩
theorem ext_trans {h0 h h' : Heap} (X : Ext h0 h) (E : Ext h h') : Ext h0 h' := ⟨Nat.le_trans X.1 E.1, fun a c q => E.2 a c (X.2 a c q)⟩
theorem ext_keep {h0 h h' : Heap} {ws : List Addr} (X : Ext h0 h) (K : Keep h h' ws) (q : ∀ x ∈ ws, h0.size ≤ x) : Ext h0 h' :=
  ⟨Nat.le_trans X.1 K.1, fun a c r => K.2.1 a c (X.2 a c r) fun z => absurd (Array.getElem?_eq_some_iff.mp r).1 (Nat.not_lt.mpr (q a z))⟩
theorem ext_wr {h0 h h' : Heap} {a : Addr} {sl : Nat} {v : Value} (X : Ext h0 h) (W : Wr h h' a sl v) (q : h0.size ≤ a) : Ext h0 h' := ext_keep X (Keep.of_wr W) (allS q all0)
theorem exa_ns {Z : State} {h : Heap} {a : Addr} {C : String} (E : Exa Z h a C) : ∀ c : Cell, h[a]? = some c → c.vm.isStatics = false := fun c q => by
  obtain ⟨cell, k, h1, -, -, h4, -⟩ := E
  cases h1.symm.trans q
  exact h4
theorem sta_keep {Z : State} {h h' : Heap} {C n d : String} {w : Value} {ws : List Addr} (F : Sta Z h C n d w) (K : Keep h h' ws) (q : ∀ x ∈ ws, ∀ c : Cell, h[x]? = some c → c.vm.isStatics = false) : Sta Z h' C n d w := by
  obtain ⟨cf, i, k, f, st, cell, h1, h2, h3, h4, h5, h6, h7⟩ := F
  exact ⟨cf, i, k, f, st, cell, h1, h2, h3, h4, K.2.1 st cell h5 (fun m => by have r := q st m cell h5; rw [h6] at r; cases r), h6, h7⟩
theorem eqI {args : Array Value} {first s : State} {o : Option Outcome} {idx : List Nat} {a b : Term} {k : Int32} (h : (Cond.eq a b).value args first o s idx = some true) (hb : b.eval args first o idx s = some (.int k)) : a.eval args first o idx s = some (.int k) := by
  obtain ⟨x, z, e1, e2, k1, k2⟩ := cmp_v (Or.inl h)
  cases hb.symm.trans e2
  obtain ⟨w, rfl⟩ := k2
  have h' := h
  simp only [Cond.value, e1, hb, Option.some.injEq, decide_eq_true_eq] at h'
  rw [e1, h']
theorem eqJ {args : Array Value} {first s : State} {o : Option Outcome} {idx : List Nat} {a b : Term} {k : Int64} (h : (Cond.eq a b).value args first o s idx = some true) (hb : b.eval args first o idx s = some (.long k)) : a.eval args first o idx s = some (.long k) := by
  obtain ⟨x, z, e1, e2, k1, k2⟩ := cmp_v (Or.inl h)
  cases hb.symm.trans e2
  obtain ⟨w, rfl⟩ := k2
  have h' := h
  simp only [Cond.value, e1, hb, Option.some.injEq, decide_eq_true_eq] at h'
  rw [e1, h']
theorem arrClass {Z : State} {a0 : Array Value} {C : String} (w : (Cond.arrayOver (.object C)).before a0 Z = true) : (Cond.arrayClass (.object C)).before a0 Z = true := by
  obtain ⟨comp, c, k, -, -, h3, h4, h5⟩ := Cond.arrayOver_spec w
  simp [Cond.before, Cond.holds, Cond.value, h5, h3, h4]
theorem ovrOf {Z : State} {a0 : Array Value} {C : String} {cI : ClassId} (w : (Cond.arrayOver (.object C)).before a0 Z = true) (h : Z.vm.findClass (FieldType.array (.object C)).toString = some cI) : Ovr Z cI C := by
  obtain ⟨comp, c, k, h1, -, h3, h4, h5⟩ := Cond.arrayOver_spec w
  have e : (FieldType.array (.object C)).toString = "[" ++ (FieldType.object C).toString := rfl
  rw [e, h5] at h
  cases h
  exact ⟨k, comp, h3, h4, h1⟩
section Laws
variable {l : Launch} {Z : State} {R : Room} {y : MethodName} {bs : ByteArray} {ml : Nat} {ret : Option FieldType} {n0 : Nat} {Q : Option Value → Heap → Prop} {h : Heap} {k n : Nat} {k' n' : Nat} {pc pc' : Nat} {L L' : Array Slot} {St : List Value} {a0 : Array Value}
theorem Con.of {as' : Array Value} (pn : plainFor y = true) (ef : ∀ m, entryFrame m as' ml = mkF m 0 L []) (b : Go l Z R y bs ml ret n0 Q h 0 0 0 L []) : Con l Z R y bs ml ret n0 as' h Q := by
  intro ws
  refine MetFree.of_bodySF pn hisR ?_
  intro p e s m args below meth c s₁ Bd hml0 hP hK
  obtain ⟨rfl, hZ, hh⟩ := hP
  have X0 : Stand p l e R s m args below meth c s₁ [] 0 0 := Stand.of_body Bd
  have e0 : s₁.heap = h := by rw [← hh, Bd.state]; rfl
  have q := b p e s m args below meth c s₁ [] ⟨Bd.exec, Bd.bytes, hml0, findClass_of_methodNamed Bd.named, (name_of_methodNamed Bd.named Bd.method).1, Bd.returns, Bd.notSynchronized, hZ⟩ X0 (Fr.nil n0) e0
  rw [← ef m] at q
  exact q
theorem Con.mono {as' : Array Value} {Q' : Option Value → Heap → Prop} (q : Con l Z R y bs ml ret n0 as' h Q) (i : ∀ v h', Q v h' → Q' v h') : Con l Z R y bs ml ret n0 as' h Q' := by
  intro ws p e ha hc hk s m args below hf happ hP hK
  obtain ⟨s₂, o, h1, h2, h3, v, Ls, h4, ⟨h5, h6⟩, h7⟩ := q ws p e ha hc hk s m args below hf happ hP hK
  exact ⟨s₂, o, h1, h2, h3, v, Ls, h4, ⟨i _ _ h5, h6⟩, h7⟩
/-- the same, the heap's name turned -/
theorem Go.cast {h' : Heap} (e : h' = h) (q : Go l Z R y bs ml ret n0 Q h' k n pc L St) : Go l Z R y bs ml ret n0 Q h k n pc L St := e ▸ q
theorem Go.more {k' n' : Nat} (hk : k ≤ k') (hn : n ≤ n') (q : Go l Z R y bs ml ret n0 Q h k' n' pc L St) : Go l Z R y bs ml ret n0 Q h k n pc L St := fun p e s m args below meth c T locs C X N eT => q p e s m args below meth c T locs C (X.mono hk hn) N eT
theorem Go.frm {St' : List Value} (q : Go l Z R y bs ml ret n0 Q h k n pc L' St') (e1 : L = L') (e2 : St = St') : Go l Z R y bs ml ret n0 Q h k n pc L St := by subst e1 e2; exact q

theorem iload {i : Nat} {v : Int32} (hd : decode bs pc = .ok (.iload i, 2)) (hl : L[i]? = some (.val (.int v))) (hp : pc + 2 = pc') (kt : Go l Z R y bs ml ret n0 Q h k n pc' L (.int v :: St)) : Go l Z R y bs ml ret n0 Q h k n pc L St := by
  subst hp
  intro p e s m args below meth c T locs C X N eT
  exact (kt p e s m args below meth c T locs C X N eT).thru fun t q => XS.iload X.here C.1 rfl (hb C.2.1 hd) hl q
theorem iloadN {i : Fin 4} {v : Int32} (hd : decode bs pc = .ok (.iload_n i, 1)) (hl : L[i.val]? = some (.val (.int v))) (hp : pc + 1 = pc') (kt : Go l Z R y bs ml ret n0 Q h k n pc' L (.int v :: St)) : Go l Z R y bs ml ret n0 Q h k n pc L St := by
  subst hp
  intro p e s m args below meth c T locs C X N eT
  exact (kt p e s m args below meth c T locs C X N eT).thru fun t q => XS.iloadN X.here C.1 rfl (hb C.2.1 hd) hl q
theorem istore {i : Nat} {v : Int32} (hd : decode bs pc = .ok (.istore i, 2)) (hl : storeLocals L i (.int v) = some L') (hp : pc + 2 = pc') (kt : Go l Z R y bs ml ret n0 Q h k n pc' L' St) : Go l Z R y bs ml ret n0 Q h k n pc L (.int v :: St) := by
  subst hp
  intro p e s m args below meth c T locs C X N eT
  exact (kt p e s m args below meth c T locs C X N eT).thru fun t q => XS.istore X.here C.1 rfl (hb C.2.1 hd) rfl hl q
theorem istoreN {i : Fin 4} {v : Int32} (hd : decode bs pc = .ok (.istore_n i, 1)) (hl : storeLocals L i.val (.int v) = some L') (hp : pc + 1 = pc') (kt : Go l Z R y bs ml ret n0 Q h k n pc' L' St) : Go l Z R y bs ml ret n0 Q h k n pc L (.int v :: St) := by
  subst hp
  intro p e s m args below meth c T locs C X N eT
  exact (kt p e s m args below meth c T locs C X N eT).thru fun t q => XS.istoreN X.here C.1 rfl (hb C.2.1 hd) rfl hl q
theorem lload {i : Nat} {v : Int64} (hd : decode bs pc = .ok (.lload i, 2)) (hl : L[i]? = some (.val (.long v))) (hp : pc + 2 = pc') (kt : Go l Z R y bs ml ret n0 Q h k n pc' L (.long v :: St)) : Go l Z R y bs ml ret n0 Q h k n pc L St := by
  subst hp
  intro p e s m args below meth c T locs C X N eT
  exact (kt p e s m args below meth c T locs C X N eT).thru fun t q => XS.lload X.here C.1 rfl (hb C.2.1 hd) hl q
theorem lloadN {i : Fin 4} {v : Int64} (hd : decode bs pc = .ok (.lload_n i, 1)) (hl : L[i.val]? = some (.val (.long v))) (hp : pc + 1 = pc') (kt : Go l Z R y bs ml ret n0 Q h k n pc' L (.long v :: St)) : Go l Z R y bs ml ret n0 Q h k n pc L St := by
  subst hp
  intro p e s m args below meth c T locs C X N eT
  exact (kt p e s m args below meth c T locs C X N eT).thru fun t q => XS.lloadN X.here C.1 rfl (hb C.2.1 hd) hl q
theorem lstore {i : Nat} {v : Int64} (hd : decode bs pc = .ok (.lstore i, 2)) (hl : storeLocals L i (.long v) = some L') (hp : pc + 2 = pc') (kt : Go l Z R y bs ml ret n0 Q h k n pc' L' St) : Go l Z R y bs ml ret n0 Q h k n pc L (.long v :: St) := by
  subst hp
  intro p e s m args below meth c T locs C X N eT
  exact (kt p e s m args below meth c T locs C X N eT).thru fun t q => XS.lstore X.here C.1 rfl (hb C.2.1 hd) rfl hl q
theorem lstoreN {i : Fin 4} {v : Int64} (hd : decode bs pc = .ok (.lstore_n i, 1)) (hl : storeLocals L i.val (.long v) = some L') (hp : pc + 1 = pc') (kt : Go l Z R y bs ml ret n0 Q h k n pc' L' St) : Go l Z R y bs ml ret n0 Q h k n pc L (.long v :: St) := by
  subst hp
  intro p e s m args below meth c T locs C X N eT
  exact (kt p e s m args below meth c T locs C X N eT).thru fun t q => XS.lstoreN X.here C.1 rfl (hb C.2.1 hd) rfl hl q
theorem aload {i : Nat} {v : Value} (hd : decode bs pc = .ok (.aload i, 2)) (hl : L[i]? = some (.val v)) (hv : v.isRef = true) (hp : pc + 2 = pc') (kt : Go l Z R y bs ml ret n0 Q h k n pc' L (v :: St)) : Go l Z R y bs ml ret n0 Q h k n pc L St := by
  subst hp
  intro p e s m args below meth c T locs C X N eT
  exact (kt p e s m args below meth c T locs C X N eT).thru fun t q => XS.aload X.here C.1 rfl (hb C.2.1 hd) hl hv q
theorem aloadN {i : Fin 4} {v : Value} (hd : decode bs pc = .ok (.aload_n i, 1)) (hl : L[i.val]? = some (.val v)) (hv : v.isRef = true) (hp : pc + 1 = pc') (kt : Go l Z R y bs ml ret n0 Q h k n pc' L (v :: St)) : Go l Z R y bs ml ret n0 Q h k n pc L St := by
  subst hp
  intro p e s m args below meth c T locs C X N eT
  exact (kt p e s m args below meth c T locs C X N eT).thru fun t q => XS.aloadN X.here C.1 rfl (hb C.2.1 hd) hl hv q
theorem astore {i : Nat} {v : Value} (hd : decode bs pc = .ok (.astore i, 2)) (hv : v.isRef = true) (hl : storeLocals L i v = some L') (hp : pc + 2 = pc') (kt : Go l Z R y bs ml ret n0 Q h k n pc' L' St) : Go l Z R y bs ml ret n0 Q h k n pc L (v :: St) := by
  subst hp
  intro p e s m args below meth c T locs C X N eT
  exact (kt p e s m args below meth c T locs C X N eT).thru fun t q => XS.astore X.here C.1 rfl (hb C.2.1 hd) rfl hv hl q
theorem astoreN {i : Fin 4} {v : Value} (hd : decode bs pc = .ok (.astore_n i, 1)) (hv : v.isRef = true) (hl : storeLocals L i.val v = some L') (hp : pc + 1 = pc') (kt : Go l Z R y bs ml ret n0 Q h k n pc' L' St) : Go l Z R y bs ml ret n0 Q h k n pc L (v :: St) := by
  subst hp
  intro p e s m args below meth c T locs C X N eT
  exact (kt p e s m args below meth c T locs C X N eT).thru fun t q => XS.astoreN X.here C.1 rfl (hb C.2.1 hd) rfl hv hl q
theorem iconst {i : Int} {v : Int32} (hd : decode bs pc = .ok (.iconst i, 1)) (hv : Int32.ofInt i = v) (hp : pc + 1 = pc') (kt : Go l Z R y bs ml ret n0 Q h k n pc' L (.int v :: St)) : Go l Z R y bs ml ret n0 Q h k n pc L St := by
  subst hp hv
  intro p e s m args below meth c T locs C X N eT
  exact (kt p e s m args below meth c T locs C X N eT).thru fun t q => XS.iconst X.here C.1 rfl (hb C.2.1 hd) q
theorem bipush {i : Int} {v : Int32} (hd : decode bs pc = .ok (.bipush i, 2)) (hv : (Int8.ofInt i).toInt32 = v) (hp : pc + 2 = pc') (kt : Go l Z R y bs ml ret n0 Q h k n pc' L (.int v :: St)) : Go l Z R y bs ml ret n0 Q h k n pc L St := by
  subst hp hv
  intro p e s m args below meth c T locs C X N eT
  exact (kt p e s m args below meth c T locs C X N eT).thru fun t q => XS.bipush X.here C.1 rfl (hb C.2.1 hd) q
theorem sipush {i : Int} {v : Int32} (hd : decode bs pc = .ok (.sipush i, 3)) (hv : (Int16.ofInt i).toInt32 = v) (hp : pc + 3 = pc') (kt : Go l Z R y bs ml ret n0 Q h k n pc' L (.int v :: St)) : Go l Z R y bs ml ret n0 Q h k n pc L St := by
  subst hp hv
  intro p e s m args below meth c T locs C X N eT
  exact (kt p e s m args below meth c T locs C X N eT).thru fun t q => XS.sipush X.here C.1 rfl (hb C.2.1 hd) q
theorem aconstNull  (hd : decode bs pc = .ok (.aconst_null, 1)) (hp : pc + 1 = pc') (kt : Go l Z R y bs ml ret n0 Q h k n pc' L (.null :: St)) : Go l Z R y bs ml ret n0 Q h k n pc L St := by
  subst hp
  intro p e s m args below meth c T locs C X N eT
  exact (kt p e s m args below meth c T locs C X N eT).thru fun t q => XS.aconstNull X.here C.1 rfl (hb C.2.1 hd) q
theorem iadd {x z : Int32} (hd : decode bs pc = .ok (.iadd, 1)) (hp : pc + 1 = pc') (kt : Go l Z R y bs ml ret n0 Q h k n pc' L (.int (x + z) :: St)) : Go l Z R y bs ml ret n0 Q h k n pc L (.int z :: .int x :: St) := by
  subst hp
  intro p e s m args below meth c T locs C X N eT
  exact (kt p e s m args below meth c T locs C X N eT).thru fun t q => XS.iadd X.here C.1 rfl (hb C.2.1 hd) rfl q
theorem isub {x z : Int32} (hd : decode bs pc = .ok (.isub, 1)) (hp : pc + 1 = pc') (kt : Go l Z R y bs ml ret n0 Q h k n pc' L (.int (x - z) :: St)) : Go l Z R y bs ml ret n0 Q h k n pc L (.int z :: .int x :: St) := by
  subst hp
  intro p e s m args below meth c T locs C X N eT
  exact (kt p e s m args below meth c T locs C X N eT).thru fun t q => XS.isub X.here C.1 rfl (hb C.2.1 hd) rfl q
theorem imul {x z : Int32} (hd : decode bs pc = .ok (.imul, 1)) (hp : pc + 1 = pc') (kt : Go l Z R y bs ml ret n0 Q h k n pc' L (.int (x * z) :: St)) : Go l Z R y bs ml ret n0 Q h k n pc L (.int z :: .int x :: St) := by
  subst hp
  intro p e s m args below meth c T locs C X N eT
  exact (kt p e s m args below meth c T locs C X N eT).thru fun t q => XS.imul X.here C.1 rfl (hb C.2.1 hd) rfl q
theorem iand {x z : Int32} (hd : decode bs pc = .ok (.iand, 1)) (hp : pc + 1 = pc') (kt : Go l Z R y bs ml ret n0 Q h k n pc' L (.int (x &&& z) :: St)) : Go l Z R y bs ml ret n0 Q h k n pc L (.int z :: .int x :: St) := by
  subst hp
  intro p e s m args below meth c T locs C X N eT
  exact (kt p e s m args below meth c T locs C X N eT).thru fun t q => XS.iand X.here C.1 rfl (hb C.2.1 hd) rfl q
theorem ior {x z : Int32} (hd : decode bs pc = .ok (.ior, 1)) (hp : pc + 1 = pc') (kt : Go l Z R y bs ml ret n0 Q h k n pc' L (.int (x ||| z) :: St)) : Go l Z R y bs ml ret n0 Q h k n pc L (.int z :: .int x :: St) := by
  subst hp
  intro p e s m args below meth c T locs C X N eT
  exact (kt p e s m args below meth c T locs C X N eT).thru fun t q => XS.ior X.here C.1 rfl (hb C.2.1 hd) rfl q
theorem ixor {x z : Int32} (hd : decode bs pc = .ok (.ixor, 1)) (hp : pc + 1 = pc') (kt : Go l Z R y bs ml ret n0 Q h k n pc' L (.int (x ^^^ z) :: St)) : Go l Z R y bs ml ret n0 Q h k n pc L (.int z :: .int x :: St) := by
  subst hp
  intro p e s m args below meth c T locs C X N eT
  exact (kt p e s m args below meth c T locs C X N eT).thru fun t q => XS.ixor X.here C.1 rfl (hb C.2.1 hd) rfl q
theorem ishl {x z : Int32} (hd : decode bs pc = .ok (.ishl, 1)) (hp : pc + 1 = pc') (kt : Go l Z R y bs ml ret n0 Q h k n pc' L (.int (x <<< (z &&& 31)) :: St)) : Go l Z R y bs ml ret n0 Q h k n pc L (.int z :: .int x :: St) := by
  subst hp
  intro p e s m args below meth c T locs C X N eT
  exact (kt p e s m args below meth c T locs C X N eT).thru fun t q => XS.ishl X.here C.1 rfl (hb C.2.1 hd) rfl q
theorem ishr {x z : Int32} (hd : decode bs pc = .ok (.ishr, 1)) (hp : pc + 1 = pc') (kt : Go l Z R y bs ml ret n0 Q h k n pc' L (.int (x >>> (z &&& 31)) :: St)) : Go l Z R y bs ml ret n0 Q h k n pc L (.int z :: .int x :: St) := by
  subst hp
  intro p e s m args below meth c T locs C X N eT
  exact (kt p e s m args below meth c T locs C X N eT).thru fun t q => XS.ishr X.here C.1 rfl (hb C.2.1 hd) rfl q
theorem iushr {x z : Int32} (hd : decode bs pc = .ok (.iushr, 1)) (hp : pc + 1 = pc') (kt : Go l Z R y bs ml ret n0 Q h k n pc' L (.int ((x.toUInt32 >>> (z &&& 31).toUInt32).toInt32) :: St)) : Go l Z R y bs ml ret n0 Q h k n pc L (.int z :: .int x :: St) := by
  subst hp
  intro p e s m args below meth c T locs C X N eT
  exact (kt p e s m args below meth c T locs C X N eT).thru fun t q => XS.iushr X.here C.1 rfl (hb C.2.1 hd) rfl q
theorem ladd {x z : Int64} (hd : decode bs pc = .ok (.ladd, 1)) (hp : pc + 1 = pc') (kt : Go l Z R y bs ml ret n0 Q h k n pc' L (.long (x + z) :: St)) : Go l Z R y bs ml ret n0 Q h k n pc L (.long z :: .long x :: St) := by
  subst hp
  intro p e s m args below meth c T locs C X N eT
  exact (kt p e s m args below meth c T locs C X N eT).thru fun t q => XS.ladd X.here C.1 rfl (hb C.2.1 hd) rfl q
theorem lsub {x z : Int64} (hd : decode bs pc = .ok (.lsub, 1)) (hp : pc + 1 = pc') (kt : Go l Z R y bs ml ret n0 Q h k n pc' L (.long (x - z) :: St)) : Go l Z R y bs ml ret n0 Q h k n pc L (.long z :: .long x :: St) := by
  subst hp
  intro p e s m args below meth c T locs C X N eT
  exact (kt p e s m args below meth c T locs C X N eT).thru fun t q => XS.lsub X.here C.1 rfl (hb C.2.1 hd) rfl q
theorem lmul {x z : Int64} (hd : decode bs pc = .ok (.lmul, 1)) (hp : pc + 1 = pc') (kt : Go l Z R y bs ml ret n0 Q h k n pc' L (.long (x * z) :: St)) : Go l Z R y bs ml ret n0 Q h k n pc L (.long z :: .long x :: St) := by
  subst hp
  intro p e s m args below meth c T locs C X N eT
  exact (kt p e s m args below meth c T locs C X N eT).thru fun t q => XS.lmul X.here C.1 rfl (hb C.2.1 hd) rfl q
theorem land {x z : Int64} (hd : decode bs pc = .ok (.land, 1)) (hp : pc + 1 = pc') (kt : Go l Z R y bs ml ret n0 Q h k n pc' L (.long (x &&& z) :: St)) : Go l Z R y bs ml ret n0 Q h k n pc L (.long z :: .long x :: St) := by
  subst hp
  intro p e s m args below meth c T locs C X N eT
  exact (kt p e s m args below meth c T locs C X N eT).thru fun t q => XS.land X.here C.1 rfl (hb C.2.1 hd) rfl q
theorem lor {x z : Int64} (hd : decode bs pc = .ok (.lor, 1)) (hp : pc + 1 = pc') (kt : Go l Z R y bs ml ret n0 Q h k n pc' L (.long (x ||| z) :: St)) : Go l Z R y bs ml ret n0 Q h k n pc L (.long z :: .long x :: St) := by
  subst hp
  intro p e s m args below meth c T locs C X N eT
  exact (kt p e s m args below meth c T locs C X N eT).thru fun t q => XS.lor X.here C.1 rfl (hb C.2.1 hd) rfl q
theorem lxor {x z : Int64} (hd : decode bs pc = .ok (.lxor, 1)) (hp : pc + 1 = pc') (kt : Go l Z R y bs ml ret n0 Q h k n pc' L (.long (x ^^^ z) :: St)) : Go l Z R y bs ml ret n0 Q h k n pc L (.long z :: .long x :: St) := by
  subst hp
  intro p e s m args below meth c T locs C X N eT
  exact (kt p e s m args below meth c T locs C X N eT).thru fun t q => XS.lxor X.here C.1 rfl (hb C.2.1 hd) rfl q
theorem lshl {x : Int64} {z : Int32} (hd : decode bs pc = .ok (.lshl, 1)) (hp : pc + 1 = pc') (kt : Go l Z R y bs ml ret n0 Q h k n pc' L (.long (x <<< (z &&& 0x3f).toInt64) :: St)) : Go l Z R y bs ml ret n0 Q h k n pc L (.int z :: .long x :: St) := by
  subst hp
  intro p e s m args below meth c T locs C X N eT
  exact (kt p e s m args below meth c T locs C X N eT).thru fun t q => XS.lshl X.here C.1 rfl (hb C.2.1 hd) rfl q
theorem lshr {x : Int64} {z : Int32} (hd : decode bs pc = .ok (.lshr, 1)) (hp : pc + 1 = pc') (kt : Go l Z R y bs ml ret n0 Q h k n pc' L (.long (x >>> (z &&& 0x3f).toInt64) :: St)) : Go l Z R y bs ml ret n0 Q h k n pc L (.int z :: .long x :: St) := by
  subst hp
  intro p e s m args below meth c T locs C X N eT
  exact (kt p e s m args below meth c T locs C X N eT).thru fun t q => XS.lshr X.here C.1 rfl (hb C.2.1 hd) rfl q
theorem lushr {x : Int64} {z : Int32} (hd : decode bs pc = .ok (.lushr, 1)) (hp : pc + 1 = pc') (kt : Go l Z R y bs ml ret n0 Q h k n pc' L (.long ((x.toUInt64 >>> (z &&& 0x3f).toInt64.toUInt64).toInt64) :: St)) : Go l Z R y bs ml ret n0 Q h k n pc L (.int z :: .long x :: St) := by
  subst hp
  intro p e s m args below meth c T locs C X N eT
  exact (kt p e s m args below meth c T locs C X N eT).thru fun t q => XS.lushr X.here C.1 rfl (hb C.2.1 hd) rfl q
theorem ineg {x : Int32} (hd : decode bs pc = .ok (.ineg, 1)) (hp : pc + 1 = pc') (kt : Go l Z R y bs ml ret n0 Q h k n pc' L (.int (-x) :: St)) : Go l Z R y bs ml ret n0 Q h k n pc L (.int x :: St) := by
  subst hp
  intro p e s m args below meth c T locs C X N eT
  exact (kt p e s m args below meth c T locs C X N eT).thru fun t q => XS.ineg X.here C.1 rfl (hb C.2.1 hd) rfl q
theorem lneg {x : Int64} (hd : decode bs pc = .ok (.lneg, 1)) (hp : pc + 1 = pc') (kt : Go l Z R y bs ml ret n0 Q h k n pc' L (.long (-x) :: St)) : Go l Z R y bs ml ret n0 Q h k n pc L (.long x :: St) := by
  subst hp
  intro p e s m args below meth c T locs C X N eT
  exact (kt p e s m args below meth c T locs C X N eT).thru fun t q => XS.lneg X.here C.1 rfl (hb C.2.1 hd) rfl q
theorem i2l {x : Int32} (hd : decode bs pc = .ok (.i2l, 1)) (hp : pc + 1 = pc') (kt : Go l Z R y bs ml ret n0 Q h k n pc' L (.long (x.toInt64) :: St)) : Go l Z R y bs ml ret n0 Q h k n pc L (.int x :: St) := by
  subst hp
  intro p e s m args below meth c T locs C X N eT
  exact (kt p e s m args below meth c T locs C X N eT).thru fun t q => XS.i2l X.here C.1 rfl (hb C.2.1 hd) rfl q
theorem l2i {x : Int64} (hd : decode bs pc = .ok (.l2i, 1)) (hp : pc + 1 = pc') (kt : Go l Z R y bs ml ret n0 Q h k n pc' L (.int (x.toInt32) :: St)) : Go l Z R y bs ml ret n0 Q h k n pc L (.long x :: St) := by
  subst hp
  intro p e s m args below meth c T locs C X N eT
  exact (kt p e s m args below meth c T locs C X N eT).thru fun t q => XS.l2i X.here C.1 rfl (hb C.2.1 hd) rfl q
theorem i2b {x : Int32} (hd : decode bs pc = .ok (.i2b, 1)) (hp : pc + 1 = pc') (kt : Go l Z R y bs ml ret n0 Q h k n pc' L (.int (x.toInt8.toInt32) :: St)) : Go l Z R y bs ml ret n0 Q h k n pc L (.int x :: St) := by
  subst hp
  intro p e s m args below meth c T locs C X N eT
  exact (kt p e s m args below meth c T locs C X N eT).thru fun t q => XS.i2b X.here C.1 rfl (hb C.2.1 hd) rfl q
theorem i2s {x : Int32} (hd : decode bs pc = .ok (.i2s, 1)) (hp : pc + 1 = pc') (kt : Go l Z R y bs ml ret n0 Q h k n pc' L (.int (x.toInt16.toInt32) :: St)) : Go l Z R y bs ml ret n0 Q h k n pc L (.int x :: St) := by
  subst hp
  intro p e s m args below meth c T locs C X N eT
  exact (kt p e s m args below meth c T locs C X N eT).thru fun t q => XS.i2s X.here C.1 rfl (hb C.2.1 hd) rfl q
theorem i2c {x : Int32} (hd : decode bs pc = .ok (.i2c, 1)) (hp : pc + 1 = pc') (kt : Go l Z R y bs ml ret n0 Q h k n pc' L (.int (x.toUInt32.toUInt16.toUInt32.toInt32) :: St)) : Go l Z R y bs ml ret n0 Q h k n pc L (.int x :: St) := by
  subst hp
  intro p e s m args below meth c T locs C X N eT
  exact (kt p e s m args below meth c T locs C X N eT).thru fun t q => XS.i2c X.here C.1 rfl (hb C.2.1 hd) rfl q
theorem lcmp {x z : Int64} (hd : decode bs pc = .ok (.lcmp, 1)) (hp : pc + 1 = pc') (kt : Go l Z R y bs ml ret n0 Q h k n pc' L (.int (lcmpW x z) :: St)) : Go l Z R y bs ml ret n0 Q h k n pc L (.long z :: .long x :: St) := by
  subst hp
  intro p e s m args below meth c T locs C X N eT
  exact (kt p e s m args below meth c T locs C X N eT).thru fun t q => XS.lcmp X.here C.1 rfl (hb C.2.1 hd) rfl q
theorem idiv {x z : Int32} (hd : decode bs pc = .ok (.idiv, 1)) (hz : z ≠ 0) (hp : pc + 1 = pc') (kt : Go l Z R y bs ml ret n0 Q h k n pc' L (.int (x / z) :: St)) : Go l Z R y bs ml ret n0 Q h k n pc L (.int z :: .int x :: St) := by
  subst hp
  intro p e s m args below meth c T locs C X N eT
  exact (kt p e s m args below meth c T locs C X N eT).thru fun t q => XS.idiv X.here C.1 rfl (hb C.2.1 hd) rfl hz q
theorem irem {x z : Int32} (hd : decode bs pc = .ok (.irem, 1)) (hz : z ≠ 0) (hp : pc + 1 = pc') (kt : Go l Z R y bs ml ret n0 Q h k n pc' L (.int (x % z) :: St)) : Go l Z R y bs ml ret n0 Q h k n pc L (.int z :: .int x :: St) := by
  subst hp
  intro p e s m args below meth c T locs C X N eT
  exact (kt p e s m args below meth c T locs C X N eT).thru fun t q => iremM X C.1 rfl (hb C.2.1 hd) rfl hz q
theorem lrem {x z : Int64} (hd : decode bs pc = .ok (.lrem, 1)) (hz : z ≠ 0) (hp : pc + 1 = pc') (kt : Go l Z R y bs ml ret n0 Q h k n pc' L (.long (x % z) :: St)) : Go l Z R y bs ml ret n0 Q h k n pc L (.long z :: .long x :: St) := by
  subst hp
  rw [← lrem_mod] at kt
  intro p e s m args below meth c T locs C X N eT
  exact (kt p e s m args below meth c T locs C X N eT).thru fun t q => XS.lrem X.here C.1 rfl (hb C.2.1 hd) rfl hz q
theorem ldiv {x z : Int64} (hd : decode bs pc = .ok (.ldiv, 1)) (hz : z ≠ 0) (hp : pc + 1 = pc') (kt : Go l Z R y bs ml ret n0 Q h k n pc' L (.long (x / z) :: St)) : Go l Z R y bs ml ret n0 Q h k n pc L (.long z :: .long x :: St) := by
  subst hp
  intro p e s m args below meth c T locs C X N eT
  exact (kt p e s m args below meth c T locs C X N eT).thru fun t q => XS.ldiv X.here C.1 rfl (hb C.2.1 hd) rfl hz q
theorem dup {v : Value} (hd : decode bs pc = .ok (.dup, 1)) (hc : v.category = 1) (hp : pc + 1 = pc') (kt : Go l Z R y bs ml ret n0 Q h k n pc' L (v :: v :: St)) : Go l Z R y bs ml ret n0 Q h k n pc L (v :: St) := by
  subst hp
  intro p e s m args below meth c T locs C X N eT
  exact (kt p e s m args below meth c T locs C X N eT).thru fun t q => XS.dup X.here C.1 rfl (hb C.2.1 hd) rfl hc q
theorem pop {v : Value} (hd : decode bs pc = .ok (.pop, 1)) (hc : v.category = 1) (hp : pc + 1 = pc') (kt : Go l Z R y bs ml ret n0 Q h k n pc' L St) : Go l Z R y bs ml ret n0 Q h k n pc L (v :: St) := by
  subst hp
  intro p e s m args below meth c T locs C X N eT
  exact (kt p e s m args below meth c T locs C X N eT).thru fun t q => XS.pop X.here C.1 rfl (hb C.2.1 hd) rfl hc q
theorem dupX1 {v w : Value} (hd : decode bs pc = .ok (.dup_x1, 1)) (hc : v.category = 1) (hw : w.category = 1) (hp : pc + 1 = pc') (kt : Go l Z R y bs ml ret n0 Q h k n pc' L (v :: w :: v :: St)) : Go l Z R y bs ml ret n0 Q h k n pc L (v :: w :: St) := by
  subst hp
  intro p e s m args below meth c T locs C X N eT
  exact (kt p e s m args below meth c T locs C X N eT).thru fun t q => XS.dupX1 X.here C.1 rfl (hb C.2.1 hd) rfl hc hw q
theorem dup2 {v w : Value} (hd : decode bs pc = .ok (.dup2, 1)) (hc : v.category = 1) (hw : w.category = 1) (hp : pc + 1 = pc') (kt : Go l Z R y bs ml ret n0 Q h k n pc' L (v :: w :: v :: w :: St)) : Go l Z R y bs ml ret n0 Q h k n pc L (v :: w :: St) := by
  subst hp
  intro p e s m args below meth c T locs C X N eT
  exact (kt p e s m args below meth c T locs C X N eT).thru fun t q => XT.dup2 X.here C.1 rfl (hb C.2.1 hd) rfl hc hw q
theorem dup2L {x : Int64} (hd : decode bs pc = .ok (.dup2, 1)) (hp : pc + 1 = pc') (kt : Go l Z R y bs ml ret n0 Q h k n pc' L (.long x :: .long x :: St)) : Go l Z R y bs ml ret n0 Q h k n pc L (.long x :: St) := by
  subst hp
  intro p e s m args below meth c T locs C X N eT
  exact (kt p e s m args below meth c T locs C X N eT).thru fun t q => XT.dup2L X.here C.1 rfl (hb C.2.1 hd) rfl q
theorem lconst {i : Fin 2} {v : Int64} (hd : decode bs pc = .ok (.lconst i, 1)) (hv : Int64.ofNat i.val = v) (hp : pc + 1 = pc') (kt : Go l Z R y bs ml ret n0 Q h k n pc' L (.long v :: St)) : Go l Z R y bs ml ret n0 Q h k n pc L St := by
  subst hp hv
  intro p e s m args below meth c T locs C X N eT
  exact (kt p e s m args below meth c T locs C X N eT).thru fun t q => XS.lconst X.here C.1 rfl (hb C.2.1 hd) q
theorem iinc {i : Nat} {cst : Int} {x d : Int32} (hd : decode bs pc = .ok (.iinc i cst, 3)) (hl : L[i]? = some (.val (.int x))) (hv : Int32.ofInt cst = d) (hs : storeLocals L i (.int (x + d)) = some L') (hp : pc + 3 = pc') (kt : Go l Z R y bs ml ret n0 Q h k n pc' L' St) : Go l Z R y bs ml ret n0 Q h k n pc L St := by
  subst hp hv
  intro p e s m args below meth c T locs C X N eT
  exact (kt p e s m args below meth c T locs C X N eT).thru fun t q => XS.iinc X.here C.1 rfl (hb C.2.1 hd) hl hs q
theorem goto {o : Int} (hd : decode bs pc = .ok (.goto o, 3)) (ho : 0 ≤ (pc : Int) + o) (hp : ((pc : Int) + o).toNat = pc') (kt : Go l Z R y bs ml ret n0 Q h k n pc' L St) : Go l Z R y bs ml ret n0 Q h k n pc L St := by
  intro p e s m args below meth c T locs C X N eT
  exact (kt p e s m args below meth c T locs C X N eT).thru fun t q => XS.goto X.here C.1 rfl rfl (hb C.2.1 hd) ho hp q
theorem icmpY {cd : ClassFile.Cond} {o : Int} {x z : Int32} (hd : decode bs pc = .ok (.if_icmp cd o, 3)) (hc : if_icmp.holds cd x z = true) (ho : 0 ≤ (pc : Int) + o) (hp : ((pc : Int) + o).toNat = pc') (kt : Go l Z R y bs ml ret n0 Q h k n pc' L St) : Go l Z R y bs ml ret n0 Q h k n pc L (.int z :: .int x :: St) := by
  intro p e s m args below meth c T locs C X N eT
  exact (kt p e s m args below meth c T locs C X N eT).thru fun t q => XS.icmpYes X.here C.1 rfl rfl (hb C.2.1 hd) rfl hc ho hp q
theorem icmpN {cd : ClassFile.Cond} {o : Int} {x z : Int32} (hd : decode bs pc = .ok (.if_icmp cd o, 3)) (hc : if_icmp.holds cd x z = false) (hp : pc + 3 = pc') (kt : Go l Z R y bs ml ret n0 Q h k n pc' L St) : Go l Z R y bs ml ret n0 Q h k n pc L (.int z :: .int x :: St) := by
  subst hp
  intro p e s m args below meth c T locs C X N eT
  exact (kt p e s m args below meth c T locs C X N eT).thru fun t q => XS.icmpNo X.here C.1 rfl (hb C.2.1 hd) rfl hc q
theorem ifcY {cd : ClassFile.Cond} {o : Int} {x : Int32} (hd : decode bs pc = .ok (.ifCond cd o, 3)) (hc : ifCond.holds cd x = true) (ho : 0 ≤ (pc : Int) + o) (hp : ((pc : Int) + o).toNat = pc') (kt : Go l Z R y bs ml ret n0 Q h k n pc' L St) : Go l Z R y bs ml ret n0 Q h k n pc L (.int x :: St) := by
  intro p e s m args below meth c T locs C X N eT
  exact (kt p e s m args below meth c T locs C X N eT).thru fun t q => XS.ifYes X.here C.1 rfl rfl (hb C.2.1 hd) rfl hc ho hp q
theorem ifcN {cd : ClassFile.Cond} {o : Int} {x : Int32} (hd : decode bs pc = .ok (.ifCond cd o, 3)) (hc : ifCond.holds cd x = false) (hp : pc + 3 = pc') (kt : Go l Z R y bs ml ret n0 Q h k n pc' L St) : Go l Z R y bs ml ret n0 Q h k n pc L (.int x :: St) := by
  subst hp
  intro p e s m args below meth c T locs C X N eT
  exact (kt p e s m args below meth c T locs C X N eT).thru fun t q => XS.ifNo X.here C.1 rfl (hb C.2.1 hd) rfl hc q
theorem ifnullY {o : Int}  (hd : decode bs pc = .ok (.ifnull o, 3)) (ho : 0 ≤ (pc : Int) + o) (hp : ((pc : Int) + o).toNat = pc') (kt : Go l Z R y bs ml ret n0 Q h k n pc' L St) : Go l Z R y bs ml ret n0 Q h k n pc L (.null :: St) := by
  intro p e s m args below meth c T locs C X N eT
  exact (kt p e s m args below meth c T locs C X N eT).thru fun t q => XS.ifnullYes X.here C.1 rfl rfl (hb C.2.1 hd) rfl ho hp q
theorem ifnullN {o : Int} {b : Addr} (hd : decode bs pc = .ok (.ifnull o, 3)) (hp : pc + 3 = pc') (kt : Go l Z R y bs ml ret n0 Q h k n pc' L St) : Go l Z R y bs ml ret n0 Q h k n pc L (.ref b :: St) := by
  subst hp
  intro p e s m args below meth c T locs C X N eT
  exact (kt p e s m args below meth c T locs C X N eT).thru fun t q => XS.ifnullNo X.here C.1 rfl (hb C.2.1 hd) rfl q
theorem ifnonnullY {o : Int} {b : Addr} (hd : decode bs pc = .ok (.ifnonnull o, 3)) (ho : 0 ≤ (pc : Int) + o) (hp : ((pc : Int) + o).toNat = pc') (kt : Go l Z R y bs ml ret n0 Q h k n pc' L St) : Go l Z R y bs ml ret n0 Q h k n pc L (.ref b :: St) := by
  intro p e s m args below meth c T locs C X N eT
  exact (kt p e s m args below meth c T locs C X N eT).thru fun t q => XS.ifnonnullYes X.here C.1 rfl rfl (hb C.2.1 hd) rfl ho hp q
theorem ifnonnullN {o : Int}  (hd : decode bs pc = .ok (.ifnonnull o, 3)) (hp : pc + 3 = pc') (kt : Go l Z R y bs ml ret n0 Q h k n pc' L St) : Go l Z R y bs ml ret n0 Q h k n pc L (.null :: St) := by
  subst hp
  intro p e s m args below meth c T locs C X N eT
  exact (kt p e s m args below meth c T locs C X N eT).thru fun t q => XS.ifnonnullNo X.here C.1 rfl (hb C.2.1 hd) rfl q
theorem acmp {cd : ACond} {o : Int} {x z : Value} {same : Bool} (hd : decode bs pc = .ok (.if_acmp cd o, 3)) (h1 : x.isRef = true) (h2 : z.isRef = true) (hq : decide (x = z) = same) (ho : 0 ≤ (pc : Int) + o) (hp : pc' = if acV cd same = true then ((pc : Int) + o).toNat else pc + 3) (kt : Go l Z R y bs ml ret n0 Q h k n pc' L St) : Go l Z R y bs ml ret n0 Q h k n pc L (z :: x :: St) := by
  intro p e s m args below meth c T locs C X N eT
  exact (kt p e s m args below meth c T locs C X N eT).thru fun t q => Jvm.RoadKit.acmp (g := mkF m pc L (z :: x :: St)) X C.1 rfl h1 h2 rfl (hb C.2.1 hd) rfl hq ho hp q
theorem pop2J {x : Int64} (hd : decode bs pc = .ok (.pop2, 1)) (hp : pc + 1 = pc') (kt : Go l Z R y bs ml ret n0 Q h k n pc' L St) : Go l Z R y bs ml ret n0 Q h k n pc L (.long x :: St) := by
  subst hp
  intro p e s m args below meth c T locs C X N eT
  have hx := C.1
  have hd' := hb C.2.1 hd
  refine (kt p e s m args below meth c T locs C X N eT).thru fun t q => ?_
  show Steps p.tables e below (T.setTop { method := m, pc := pc, locals := L, stack := .long x :: St, locked := none }) t
  jvm_step X.here [X.here.top, hx, hd', Value.category]
  exact q
theorem tswIn {dflt low high : Int} {offs : Array Int} {len : Nat} {o : Int} {i : Int32} (hd : decode bs pc = .ok (.tableswitch dflt low high offs, len)) (hin : ¬ (i.toInt < low ∨ i.toInt > high)) (hoff : offs[(i.toInt - low).toNat]? = some o) (ho : 0 ≤ (pc : Int) + o) (hp : ((pc : Int) + o).toNat = pc') (kt : Go l Z R y bs ml ret n0 Q h k n pc' L St) : Go l Z R y bs ml ret n0 Q h k n pc L (.int i :: St) := by
  intro p e s m args below meth c T locs C X N eT
  exact (kt p e s m args below meth c T locs C X N eT).thru fun t q => XS.tswIn X.here C.1 rfl rfl (hb C.2.1 hd) rfl hin hoff ho hp q
theorem tswOut {dflt low high : Int} {offs : Array Int} {len : Nat} {i : Int32} (hd : decode bs pc = .ok (.tableswitch dflt low high offs, len)) (hout : i.toInt < low ∨ i.toInt > high) (ho : 0 ≤ (pc : Int) + dflt) (hp : ((pc : Int) + dflt).toNat = pc') (kt : Go l Z R y bs ml ret n0 Q h k n pc' L St) : Go l Z R y bs ml ret n0 Q h k n pc L (.int i :: St) := by
  intro p e s m args below meth c T locs C X N eT
  exact (kt p e s m args below meth c T locs C X N eT).thru fun t q => XS.tswOut X.here C.1 rfl rfl (hb C.2.1 hd) rfl hout ho hp q
theorem ret0 (hd : decode bs pc = .ok (.return_, 1)) (hr : ret = none) (hk : k ≤ R.cells) (hn : n ≤ R.slots) (hQ : Q none h) : Go l Z R y bs ml ret n0 Q h k n pc L [] := by
  intro p e s m args below meth c T locs C X N eT
  have hret := C.2.2.2.2.2.1.trans hr
  obtain ⟨fs, hl, hrun, hended, hW, hsame⟩ := X.leave (v := none) (fun _ => rfl) C.2.2.2.2.2.2.1
  exact ⟨_, _, X.returnOut C.1 hret (hb C.2.1 hd) hl, hrun, hended, _, _, rfl, ⟨by show Q none T.heap; rw [eT]; exact hQ, N⟩, ⟨_, rfl⟩, hW, hsame.mono hk hn⟩
theorem retN {t : FieldType} {x x' : Int32} (hd : decode bs pc = .ok (.ireturn, 1)) (hr : ret = some t) (ht : t = .boolean ∨ t = .byte ∨ t = .char ∨ t = .short) (hx : nar t x = x') (hk : k ≤ R.cells) (hn : n ≤ R.slots) (hQ : Q (some (.int x')) h) : Go l Z R y bs ml ret n0 Q h k n pc L (.int x :: St) := by
  intro p e s m args below meth c T locs C X N eT
  have hret := C.2.2.2.2.2.1.trans hr
  subst hx
  obtain ⟨fs, hl, hrun, hended, hW, hsame⟩ := X.leave (v := some (.int (nar t x))) (fun q => by rw [hret] at q; cases q) C.2.2.2.2.2.2.1
  exact ⟨_, _, Jvm.RoadKit.retN X C.1 hret ht (hb C.2.1 hd) hl, hrun, hended, _, _, rfl, ⟨by show Q _ T.heap; rw [eT]; exact hQ, N⟩, ⟨_, rfl⟩, hW, hsame.mono hk hn⟩
theorem retI {x : Int32} (hd : decode bs pc = .ok (.ireturn, 1)) (hr : ret = some .int) (hk : k ≤ R.cells) (hn : n ≤ R.slots) (hQ : Q (some (.int x)) h) : Go l Z R y bs ml ret n0 Q h k n pc L (.int x :: St) := by
  intro p e s m args below meth c T locs C X N eT
  have hret := C.2.2.2.2.2.1.trans hr
  obtain ⟨fs, hl, hrun, hended, hW, hsame⟩ := X.leave (v := some (.int x)) (fun q => by rw [hret] at q; cases q) C.2.2.2.2.2.2.1
  exact ⟨_, _, Jvm.RoadKit.retOut X C.1 hret rfl (Or.inl ⟨rfl, Or.inl rfl, _, rfl⟩) (hb C.2.1 hd) hl, hrun, hended, _, _, rfl, ⟨by show Q _ T.heap; rw [eT]; exact hQ, N⟩, ⟨_, rfl⟩, hW, hsame.mono hk hn⟩
theorem retJ {x : Int64} (hd : decode bs pc = .ok (.lreturn, 1)) (hr : ret = some .long) (hk : k ≤ R.cells) (hn : n ≤ R.slots) (hQ : Q (some (.long x)) h) : Go l Z R y bs ml ret n0 Q h k n pc L (.long x :: St) := by
  intro p e s m args below meth c T locs C X N eT
  have hret := C.2.2.2.2.2.1.trans hr
  obtain ⟨fs, hl, hrun, hended, hW, hsame⟩ := X.leave (v := some (.long x)) (fun q => by rw [hret] at q; cases q) C.2.2.2.2.2.2.1
  exact ⟨_, _, Jvm.RoadKit.retOut X C.1 hret rfl (Or.inr (Or.inl ⟨rfl, rfl, _, rfl⟩)) (hb C.2.1 hd) hl, hrun, hended, _, _, rfl, ⟨by show Q _ T.heap; rw [eT]; exact hQ, N⟩, ⟨_, rfl⟩, hW, hsame.mono hk hn⟩
theorem retD {x : UInt64} (hd : decode bs pc = .ok (.dreturn, 1)) (hr : ret = some .double) (hk : k ≤ R.cells) (hn : n ≤ R.slots) (hQ : Q (some (.double x)) h) : Go l Z R y bs ml ret n0 Q h k n pc L (.double x :: St) := by
  intro p e s m args below meth c T locs C X N eT
  have hret := C.2.2.2.2.2.1.trans hr
  obtain ⟨fs, hl, hrun, hended, hW, hsame⟩ := X.leave (v := some (.double x)) (fun q => by rw [hret] at q; cases q) C.2.2.2.2.2.2.1
  exact ⟨_, _, Jvm.RoadKit.retOut X C.1 hret rfl (Or.inr (Or.inr (Or.inl ⟨rfl, rfl, _, rfl⟩))) (hb C.2.1 hd) hl, hrun, hended, _, _, rfl, ⟨by show Q _ T.heap; rw [eT]; exact hQ, N⟩, ⟨_, rfl⟩, hW, hsame.mono hk hn⟩
theorem retA {t : FieldType} {v : Value} (hd : decode bs pc = .ok (.areturn, 1)) (hr : ret = some t) (ht : t.isReference = true) (hv : v.isRef = true) (hk : k ≤ R.cells) (hn : n ≤ R.slots) (hQ : Q (some v) h) : Go l Z R y bs ml ret n0 Q h k n pc L (v :: St) := by
  intro p e s m args below meth c T locs C X N eT
  have hret := C.2.2.2.2.2.1.trans hr
  obtain ⟨fs, hl, hrun, hended, hW, hsame⟩ := X.leave (v := some v) (fun q => by rw [hret] at q; cases q) C.2.2.2.2.2.2.1
  have hna : narrow t v = v := by rcases ref_cases hv with rfl | ⟨a, rfl⟩ <;> cases t <;> first | rfl | (cases ht)
  exact ⟨_, _, Jvm.RoadKit.retOut X C.1 hret hna (Or.inr (Or.inr (Or.inr (Or.inr ⟨rfl, ht, hv⟩)))) (hb C.2.1 hd) hl, hrun, hended, _, _, rfl, ⟨by show Q _ T.heap; rw [eT]; exact hQ, N⟩, ⟨_, rfl⟩, hW, hsame.mono hk hn⟩
theorem ldcI {index : Nat} {v : Int32} (hd : decode bs pc = .ok (.ldc index, 2)) (w : (Cond.constant y.cls index v).before a0 Z = true) (hp : pc + 2 = pc') (kt : Go l Z R y bs ml ret n0 Q h k n pc' L (.int v :: St)) : Go l Z R y bs ml ret n0 Q h k n pc L St := by
  subst hp
  intro p e s m args below meth c T locs C X N eT
  exact (kt p e s m args below meth c T locs C X N eT).thru (X.ldcInt C.1 C.2.2.2.1 (mvT C.2.2.2.2.2.2.2 w) (g := mkF m pc L St) rfl (hb C.2.1 hd))
theorem ldcwI {index : Nat} {v : Int32} (hd : decode bs pc = .ok (.ldc_w index, 3)) (w : (Cond.constant y.cls index v).before a0 Z = true) (hp : pc + 3 = pc') (kt : Go l Z R y bs ml ret n0 Q h k n pc' L (.int v :: St)) : Go l Z R y bs ml ret n0 Q h k n pc L St := by
  subst hp
  intro p e s m args below meth c T locs C X N eT
  exact (kt p e s m args below meth c T locs C X N eT).thru (X.ldcwInt C.1 C.2.2.2.1 (mvT C.2.2.2.2.2.2.2 w) (g := mkF m pc L St) rfl (hb C.2.1 hd))
theorem ldc2J {index : Nat} {v : Int64} (hd : decode bs pc = .ok (.ldc2_w index, 3)) (w : (Cond.constantLong y.cls index v).before a0 Z = true) (hp : pc + 3 = pc') (kt : Go l Z R y bs ml ret n0 Q h k n pc' L (.long v :: St)) : Go l Z R y bs ml ret n0 Q h k n pc L St := by
  subst hp
  intro p e s m args below meth c T locs C X N eT
  exact (kt p e s m args below meth c T locs C X N eT).thru (X.ldc2Long C.1 C.2.2.2.1 (mvT C.2.2.2.2.2.2.2 w) (g := mkF m pc L St) rfl (hb C.2.1 hd))
theorem getF {R0 O nm d host : String} {index : Nat} {a : Addr} {v : Value} (hd : decode bs pc = .ok (.getfield index, 3)) (w : (Cond.fieldLink y.cls index R0 nm d).before a0 Z = true ∨ (Cond.fieldLinkNest y.cls index R0 nm d host).before a0 Z = true) (via : Via Z R0 O nm d) (F : Fld Z h a O nm d v) (hp : pc + 3 = pc') (kt : Go l Z R y bs ml ret n0 Q h k n pc' L (v :: St)) : Go l Z R y bs ml ret n0 Q h k n pc L (.ref a :: St) := by
  subst hp
  intro p e s m args below meth c T locs C X N eT
  obtain ⟨T', X', e', st⟩ := Jvm.RoadKit.getF X C.1 C.2.2.2.2.2.2.2 C.2.2.2.1 w via eT F (g := mkF m pc L (.ref a :: St)) rfl rfl (hb C.2.1 hd)
  exact (kt p e s m args below meth c T' locs C X' N e').thru st
theorem getS {R0 O nm d host : String} {index : Nat} {v : Value} (hd : decode bs pc = .ok (.getstatic index, 3)) (w : (Cond.fieldLink y.cls index R0 nm d).before a0 Z = true ∨ (Cond.fieldLinkNest y.cls index R0 nm d host).before a0 Z = true) (via : Via Z R0 O nm d) (F : Sta Z h O nm d v) (hp : pc + 3 = pc') (kt : Go l Z R y bs ml ret n0 Q h k n pc' L (v :: St)) : Go l Z R y bs ml ret n0 Q h k n pc L St := by
  subst hp
  intro p e s m args below meth c T locs C X N eT
  obtain ⟨T', X', e', st⟩ := getS2 X C.1 C.2.2.2.2.2.2.2 C.2.2.2.1 w via eT F (g := mkF m pc L St) rfl (hb C.2.1 hd)
  exact (kt p e s m args below meth c T' locs C X' N e').thru st
theorem putF {R0 O nm d host CC : String} {index kk : Nat} {ty : FieldType} {a : Addr} {v old : Value} (hd : decode bs pc = .ok (.putfield index, 3)) (w : (Cond.fieldLink y.cls index R0 nm d).before a0 Z = true ∨ (Cond.fieldLinkNest y.cls index R0 nm d host).before a0 Z = true) (via : Via Z R0 O nm d) (F : Fld Z h a O nm d old) (E : Exa Z h a CC)
    (Ly : (Cond.lays CC O nm d).before a0 Z = true ∨ ((Cond.laysFinal CC O nm d).before a0 Z = true ∧ y.cls = O ∧ y.name = "<init>")) (wi : (Cond.instantiable CC kk).before a0 Z = true) (hty : parseFieldDescriptor d = some ty) (hn : narrow ty v = v) (hf : fits ty v = true) (g : n0 ≤ a) (hp : pc + 3 = pc')
    (kt : ∀ h', Wr h h' a (Jvm.RoadKit.slotOf Z O nm d) v → Go l Z R y bs ml ret n0 Q h' k n pc' L St) : Go l Z R y bs ml ret n0 Q h k n pc L (v :: .ref a :: St) := by
  subst hp
  intro p e s m args below meth c T locs C X N eT
  obtain ⟨T', h', X', e', W', st⟩ := Jvm.RoadKit.putF X C.1 C.2.2.2.2.2.2.2 C.2.2.2.1 w via eT F E (Ly.imp id fun q => ⟨q.1, q.2.1, C.2.2.2.2.1.trans q.2.2⟩) wi hty hn hf (g := mkF m pc L (v :: .ref a :: St)) rfl rfl (hb C.2.1 hd)
  exact (kt h' W' p e s m args below meth c T' _ C X' (Fr.snoc X' N g) e').thru st
theorem putFN {R0 O nm d CC : String} {index kk : Nat} {ty : FieldType} {a : Addr} {v v' old : Value} (hd : decode bs pc = .ok (.putfield index, 3)) (w : (Cond.fieldLink y.cls index R0 nm d).before a0 Z = true) (via : Via Z R0 O nm d) (F : Fld Z h a O nm d old) (E : Exa Z h a CC)
    (Ly : (Cond.lays CC O nm d).before a0 Z = true ∨ ((Cond.laysFinal CC O nm d).before a0 Z = true ∧ y.cls = O ∧ y.name = "<init>")) (wi : (Cond.instantiable CC kk).before a0 Z = true) (hty : parseFieldDescriptor d = some ty) (hn : narrow ty v = v') (hf : fits ty v' = true) (g : n0 ≤ a) (hp : pc + 3 = pc')
    (kt : ∀ h', Wr h h' a (Jvm.RoadKit.slotOf Z O nm d) v' → Go l Z R y bs ml ret n0 Q h' k n pc' L St) : Go l Z R y bs ml ret n0 Q h k n pc L (v :: .ref a :: St) := by
  subst hp
  intro p e s m args below meth c T locs C X N eT
  obtain ⟨T', h', X', e', W', st⟩ := Jvm.RoadKit.putFN X C.1 C.2.2.2.2.2.2.2 C.2.2.2.1 w via eT F E (Ly.imp id fun q => ⟨q.1, q.2.1, C.2.2.2.2.1.trans q.2.2⟩) wi hty hn hf (g := mkF m pc L (v :: .ref a :: St)) rfl rfl (hb C.2.1 hd)
  exact (kt h' W' p e s m args below meth c T' _ C X' (Fr.snoc X' N g) e').thru st
theorem newO {CC : String} {index nn : Nat} (hd : decode bs pc = .ok (.new index, 3)) (w : (Cond.classLink y.cls index CC).before a0 Z = true) (wi : (Cond.instantiable CC nn).before a0 Z = true) (wz : (Cond.initialized CC).before a0 Z = true) (ek : k + 1 = k') (en : n + nn = n') (hc : k' ≤ R.cells) (hl : n' ≤ R.slots) (hp : pc + 3 = pc')
    (kt : ∀ h' a, a = h.size → Ext h h' → Exa Z h' a CC → (∀ {O nm d : String} {ty : FieldType}, Laid Z a0 CC O nm d → parseFieldDescriptor d = some ty → Fld Z h' a O nm d (defaultValue ty)) → Go l Z R y bs ml ret n0 Q h' k' n' pc' L (.ref a :: St)) : Go l Z R y bs ml ret n0 Q h k n pc L St := by
  subst hp ek en
  intro p e s m args below meth c T locs C X N eT
  obtain ⟨T', h', X', e', E, A, D, -, st⟩ := Jvm.RoadKit.newO X C.1 C.2.2.2.2.2.2.2 C.2.2.2.1 w wi wz eT (g := mkF m pc L St) rfl (hb C.2.1 hd) hc hl
  exact (kt h' _ rfl E A D p e s m args below meth c T' _ C X' N e').thru st
theorem newP {aty : ArrayType} {x : Int32} {cap : Nat} (hd : decode bs pc = .ok (.newarray aty, 2)) (w : (Cond.arrayClass (newarray.typeOf aty)).before a0 Z = true) (hn : ¬ x < 0) (hcap : x.toNatClampNeg ≤ cap) (hb' : cap * 8 ≤ 536870912) (ek : k + 1 = k') (en : n + cap = n') (hc : k' ≤ R.cells) (hl : n' ≤ R.slots) (hp : pc + 2 = pc')
    (kt : ∀ h' cA a, a = h.size → Ext h h' → Arr Z h' a (newA cA (newarray.typeOf aty) x) (newarray.typeOf aty) → Go l Z R y bs ml ret n0 Q h' k' n' pc' L (.ref a :: St)) : Go l Z R y bs ml ret n0 Q h k n pc L (.int x :: St) := by
  subst hp ek en
  intro p e s m args below meth c T locs C X N eT
  obtain ⟨T', h', cA, X', e', E, A, st⟩ := Jvm.RoadKit.newP X C.1 C.2.2.2.2.2.2.2 w eT (g := mkF m pc L (.int x :: St)) rfl (hb C.2.1 hd) rfl hn hcap hb' hc hl
  exact (kt h' cA _ rfl E A p e s m args below meth c T' _ C X' N e').thru st
theorem newR {CC : String} {index : Nat} {x : Int32} {cap : Nat} (hd : decode bs pc = .ok (.anewarray index, 3)) (w1 : (Cond.classLink y.cls index CC).before a0 Z = true) (w2 : (Cond.arrayOver (.object CC)).before a0 Z = true) (hn : ¬ x < 0) (hcap : x.toNatClampNeg ≤ cap) (hb' : cap * 8 ≤ 536870912) (ek : k + 1 = k') (en : n + cap = n') (hc : k' ≤ R.cells) (hl : n' ≤ R.slots) (hp : pc + 3 = pc')
    (kt : ∀ h' cA a, a = h.size → Ext h h' → Arr Z h' a (newA cA (.object CC) x) (.object CC) → Ovr Z cA CC → Go l Z R y bs ml ret n0 Q h' k' n' pc' L (.ref a :: St)) : Go l Z R y bs ml ret n0 Q h k n pc L (.int x :: St) := by
  subst hp ek en
  intro p e s m args below meth c T locs C X N eT
  obtain ⟨T', h', cA, X', e', E, A, O, st⟩ := Jvm.RoadKit.newR X C.1 C.2.2.2.2.2.2.2 C.2.2.2.1 w1 w2 eT (g := mkF m pc L (.int x :: St)) rfl (hb C.2.1 hd) rfl hn hcap hb' hc hl
  exact (kt h' cA _ rfl E A O p e s m args below meth c T' _ C X' N e').thru st
theorem stI {a : Addr} {cl : Cell} {j : Int32} {x : Int32} (hd : decode bs pc = .ok (.iastore, 1)) (A : Arr Z h a cl .int) (hj : ¬ (j < 0 ∨ cl.slots.size ≤ j.toNatClampNeg)) (g : n0 ≤ a) (hp : pc + 1 = pc') (kt : ∀ h', Wr h h' a j.toNatClampNeg (.int x) → Go l Z R y bs ml ret n0 Q h' k n pc' L St) : Go l Z R y bs ml ret n0 Q h k n pc L (.int x :: .int j :: .ref a :: St) := by
  subst hp
  intro p e s m args below meth c T locs C X N eT
  obtain ⟨T', h', X', e', W', st⟩ := Jvm.RoadKit.stI X C.1 C.2.2.2.2.2.2.2 eT A hj (g := mkF m pc L (.int x :: .int j :: .ref a :: St)) rfl rfl (hb C.2.1 hd)
  exact (kt h' W' p e s m args below meth c T' _ C X' (Fr.snoc X' N g) e').thru st
theorem stJ {a : Addr} {cl : Cell} {j : Int32} {x : Int64} (hd : decode bs pc = .ok (.lastore, 1)) (A : Arr Z h a cl .long) (hj : ¬ (j < 0 ∨ cl.slots.size ≤ j.toNatClampNeg)) (g : n0 ≤ a) (hp : pc + 1 = pc') (kt : ∀ h', Wr h h' a j.toNatClampNeg (.long x) → Go l Z R y bs ml ret n0 Q h' k n pc' L St) : Go l Z R y bs ml ret n0 Q h k n pc L (.long x :: .int j :: .ref a :: St) := by
  subst hp
  intro p e s m args below meth c T locs C X N eT
  obtain ⟨T', h', X', e', W', st⟩ := Jvm.RoadKit.stJ X C.1 C.2.2.2.2.2.2.2 eT A hj (g := mkF m pc L (.long x :: .int j :: .ref a :: St)) rfl rfl (hb C.2.1 hd)
  exact (kt h' W' p e s m args below meth c T' _ C X' (Fr.snoc X' N g) e').thru st
theorem stB {a : Addr} {cl : Cell} {j : Int32} {x : Int32} (hd : decode bs pc = .ok (.bastore, 1)) (A : Arr Z h a cl .byte) (hj : ¬ (j < 0 ∨ cl.slots.size ≤ j.toNatClampNeg)) (g : n0 ≤ a) (hp : pc + 1 = pc') (kt : ∀ h', Wr h h' a j.toNatClampNeg (.int (nar .byte x)) → Go l Z R y bs ml ret n0 Q h' k n pc' L St) : Go l Z R y bs ml ret n0 Q h k n pc L (.int x :: .int j :: .ref a :: St) := by
  subst hp
  intro p e s m args below meth c T locs C X N eT
  obtain ⟨T', h', X', e', W', st⟩ := Jvm.RoadKit.stB X C.1 C.2.2.2.2.2.2.2 eT A hj (g := mkF m pc L (.int x :: .int j :: .ref a :: St)) rfl rfl (hb C.2.1 hd)
  exact (kt h' W' p e s m args below meth c T' _ C X' (Fr.snoc X' N g) e').thru st
theorem stC {a : Addr} {cl : Cell} {j : Int32} {x : Int32} (hd : decode bs pc = .ok (.castore, 1)) (A : Arr Z h a cl .char) (hj : ¬ (j < 0 ∨ cl.slots.size ≤ j.toNatClampNeg)) (g : n0 ≤ a) (hp : pc + 1 = pc') (kt : ∀ h', Wr h h' a j.toNatClampNeg (.int (nar .char x)) → Go l Z R y bs ml ret n0 Q h' k n pc' L St) : Go l Z R y bs ml ret n0 Q h k n pc L (.int x :: .int j :: .ref a :: St) := by
  subst hp
  intro p e s m args below meth c T locs C X N eT
  obtain ⟨T', h', X', e', W', st⟩ := Jvm.RoadKit.stC X C.1 C.2.2.2.2.2.2.2 eT A hj (g := mkF m pc L (.int x :: .int j :: .ref a :: St)) rfl rfl (hb C.2.1 hd)
  exact (kt h' W' p e s m args below meth c T' _ C X' (Fr.snoc X' N g) e').thru st
theorem stZ {a : Addr} {cl : Cell} {j : Int32} {x : Int32} (hd : decode bs pc = .ok (.bastore, 1)) (A : Arr Z h a cl .boolean) (hj : ¬ (j < 0 ∨ cl.slots.size ≤ j.toNatClampNeg)) (g : n0 ≤ a) (hp : pc + 1 = pc') (kt : ∀ h', Wr h h' a j.toNatClampNeg (.int (nar .boolean x)) → Go l Z R y bs ml ret n0 Q h' k n pc' L St) : Go l Z R y bs ml ret n0 Q h k n pc L (.int x :: .int j :: .ref a :: St) := by
  subst hp
  intro p e s m args below meth c T locs C X N eT
  obtain ⟨T', h', X', e', W', st⟩ := Jvm.RoadKit.stZ X C.1 C.2.2.2.2.2.2.2 eT A hj (g := mkF m pc L (.int x :: .int j :: .ref a :: St)) rfl rfl (hb C.2.1 hd)
  exact (kt h' W' p e s m args below meth c T' _ C X' (Fr.snoc X' N g) e').thru st
theorem stR {a : Addr} {cl : Cell} {ty : FieldType} {j : Int32} {v : Value} (hd : decode bs pc = .ok (.aastore, 1)) (A : Arr Z h a cl ty) (hj : ¬ (j < 0 ∨ cl.slots.size ≤ j.toNatClampNeg)) (hty : ty.isReference = true) (F : Sto Z h a v) (g : n0 ≤ a) (hp : pc + 1 = pc') (kt : ∀ h', Wr h h' a j.toNatClampNeg v → Go l Z R y bs ml ret n0 Q h' k n pc' L St) : Go l Z R y bs ml ret n0 Q h k n pc L (v :: .int j :: .ref a :: St) := by
  subst hp
  intro p e s m args below meth c T locs C X N eT
  obtain ⟨T', h', X', e', W', st⟩ := Jvm.RoadKit.stR X C.1 C.2.2.2.2.2.2.2 eT A hj hty F (g := mkF m pc L (v :: .int j :: .ref a :: St)) rfl rfl (hb C.2.1 hd)
  exact (kt h' W' p e s m args below meth c T' _ C X' (Fr.snoc X' N g) e').thru st
theorem iaload {a : Addr} {cl : Cell} {j : Int32} {v : Value} (hd : decode bs pc = .ok (.iaload, 1)) (A : Arr Z h a cl .int) (hj : ¬ (j < 0 ∨ cl.slots.size ≤ j.toNatClampNeg)) (hv : cl.slots[j.toNatClampNeg]? = some v) (hp : pc + 1 = pc') (kt : Go l Z R y bs ml ret n0 Q h k n pc' L (v :: St)) : Go l Z R y bs ml ret n0 Q h k n pc L (.int j :: .ref a :: St) := by
  subst hp
  intro p e s m args below meth c T locs C X N eT
  exact (kt p e s m args below meth c T locs C X N eT).thru fun t q => X.iaload C.1 (by rw [eT]; exact A.1) (State.isArrayOf_alike C.2.2.2.2.2.2.2.alike A.2.1) A.2.2 hj hv (g := mkF m pc L (.int j :: .ref a :: St)) rfl rfl (hb C.2.1 hd) _ q
theorem laload {a : Addr} {cl : Cell} {j : Int32} {v : Value} (hd : decode bs pc = .ok (.laload, 1)) (A : Arr Z h a cl .long) (hj : ¬ (j < 0 ∨ cl.slots.size ≤ j.toNatClampNeg)) (hv : cl.slots[j.toNatClampNeg]? = some v) (hp : pc + 1 = pc') (kt : Go l Z R y bs ml ret n0 Q h k n pc' L (v :: St)) : Go l Z R y bs ml ret n0 Q h k n pc L (.int j :: .ref a :: St) := by
  subst hp
  intro p e s m args below meth c T locs C X N eT
  exact (kt p e s m args below meth c T locs C X N eT).thru fun t q => X.laload C.1 (by rw [eT]; exact A.1) (State.isArrayOf_alike C.2.2.2.2.2.2.2.alike A.2.1) A.2.2 hj hv (g := mkF m pc L (.int j :: .ref a :: St)) rfl rfl (hb C.2.1 hd) _ q
theorem caload {a : Addr} {cl : Cell} {j : Int32} {v : Value} (hd : decode bs pc = .ok (.caload, 1)) (A : Arr Z h a cl .char) (hj : ¬ (j < 0 ∨ cl.slots.size ≤ j.toNatClampNeg)) (hv : cl.slots[j.toNatClampNeg]? = some v) (hp : pc + 1 = pc') (kt : Go l Z R y bs ml ret n0 Q h k n pc' L (v :: St)) : Go l Z R y bs ml ret n0 Q h k n pc L (.int j :: .ref a :: St) := by
  subst hp
  intro p e s m args below meth c T locs C X N eT
  exact (kt p e s m args below meth c T locs C X N eT).thru fun t q => X.caload C.1 (by rw [eT]; exact A.1) (State.isArrayOf_alike C.2.2.2.2.2.2.2.alike A.2.1) A.2.2 hj hv (g := mkF m pc L (.int j :: .ref a :: St)) rfl rfl (hb C.2.1 hd) _ q
theorem baload {a : Addr} {cl : Cell} {j : Int32} {v : Value} (hd : decode bs pc = .ok (.baload, 1)) (A : Arr Z h a cl .byte) (hj : ¬ (j < 0 ∨ cl.slots.size ≤ j.toNatClampNeg)) (hv : cl.slots[j.toNatClampNeg]? = some v) (hp : pc + 1 = pc') (kt : Go l Z R y bs ml ret n0 Q h k n pc' L (v :: St)) : Go l Z R y bs ml ret n0 Q h k n pc L (.int j :: .ref a :: St) := by
  subst hp
  intro p e s m args below meth c T locs C X N eT
  exact (kt p e s m args below meth c T locs C X N eT).thru fun t q => X.baloadBytes C.1 (by rw [eT]; exact A.1) (State.isArrayOf_alike C.2.2.2.2.2.2.2.alike A.2.1) A.2.2 hj hv (g := mkF m pc L (.int j :: .ref a :: St)) rfl rfl (hb C.2.1 hd) _ q
theorem aaload {a : Addr} {cl : Cell} {ty : FieldType} {j : Int32} {v : Value} (hd : decode bs pc = .ok (.aaload, 1)) (A : Arr Z h a cl ty) (hty : ty.isReference = true) (hj : ¬ (j < 0 ∨ cl.slots.size ≤ j.toNatClampNeg)) (hv : cl.slots[j.toNatClampNeg]? = some v) (hp : pc + 1 = pc') (kt : Go l Z R y bs ml ret n0 Q h k n pc' L (v :: St)) : Go l Z R y bs ml ret n0 Q h k n pc L (.int j :: .ref a :: St) := by
  subst hp
  intro p e s m args below meth c T locs C X N eT
  exact (kt p e s m args below meth c T locs C X N eT).thru fun t q => X.aaload C.1 (by rw [eT]; exact A.1) (State.isArrayOf_alike C.2.2.2.2.2.2.2.alike A.2.1) hty A.2.2 hj hv (g := mkF m pc L (.int j :: .ref a :: St)) rfl rfl (hb C.2.1 hd) _ q
theorem alen {a : Addr} {cl : Cell} {ty : FieldType} {x : Int32} (hd : decode bs pc = .ok (.arraylength, 1)) (A : Arr Z h a cl ty) (hx : cl.slots.size.toInt32 = x) (hp : pc + 1 = pc') (kt : Go l Z R y bs ml ret n0 Q h k n pc' L (.int x :: St)) : Go l Z R y bs ml ret n0 Q h k n pc L (.ref a :: St) := by
  subst hp hx
  intro p e s m args below meth c T locs C X N eT
  exact (kt p e s m args below meth c T locs C X N eT).thru fun t q => X.arraylength C.1 (by rw [eT]; exact A.1) (State.isArrayOf_alike C.2.2.2.2.2.2.2.alike A.2.1) (g := mkF m pc L (.ref a :: St)) rfl rfl (hb C.2.1 hd) _ q
theorem multi22 {index : Nat} {ty : FieldType} {cn : String} (hd : decode bs pc = .ok (.multianewarray index 2, 4)) (w1 : (Cond.classLink y.cls index cn).before a0 Z = true) (hcn : "[" ++ (FieldType.array ty).toString = cn) (w2 : (Cond.arrayOver (.array ty)).before a0 Z = true) (w3 : (Cond.arrayClass ty).before a0 Z = true) (hcb : componentBytes ty ≤ 8) (hdf : fits ty (defaultValue ty) = true) (hdd : (defaultValue ty).isDefault = true) (ek : k + 3 = k') (en : n + 6 = n') (hc : k' ≤ R.cells) (hl : n' ≤ R.slots) (hp : pc + 4 = pc')
    (kt : ∀ h' cA cI a, a = h.size → h'.size = h.size + 3 → Ext h h' → Arv Z h' a cA (.array ty) (2 : Int32) [.ref (a + 1), .ref (a + 2)] .null → Arv Z h' (a + 1) cI ty (2 : Int32) [defaultValue ty, defaultValue ty] (defaultValue ty) → Arv Z h' (a + 2) cI ty (2 : Int32) [defaultValue ty, defaultValue ty] (defaultValue ty) → Z.vm.findClass (FieldType.array ty).toString = some cI → Go l Z R y bs ml ret n0 Q h' k' n' pc' L (.ref a :: St)) : Go l Z R y bs ml ret n0 Q h k n pc L (.int (2 : Int32) :: .int (2 : Int32) :: St) := by
  subst hp ek en hcn
  intro p e s m args below meth c T locs C X N eT
  have hZ := C.2.2.2.2.2.2.2
  have hc2 : (2 : Int32).toNatClampNeg = 2 := by decide
  obtain ⟨vm₁, cA, cI, hW, hfA, hfC, hO, hI, X', st⟩ := X.multianewarray2F C.1 C.2.2.2.1 (mvT hZ w1) ((Cond.arrayOver_setVmC (args := a0) (s := Z) hZ.alike (.array ty)).trans w2) (mvA hZ w3) (g := mkF m pc L (.int (2 : Int32) :: .int (2 : Int32) :: St)) rfl (hb C.2.1 hd) (n := (2 : Int32)) (k := (2 : Int32)) (rest := St) rfl (by decide) (by decide) (by decide) (by rw [hc2]; omega) (by decide) hdf hdd (by rw [hc2]; omega) (by rw [hc2]; omega)
  rw [hc2] at X' st
  subst eT
  obtain ⟨f1, f2, -, -⟩ := Jvm.Free.Multi.fill_facts (T.setVm vm₁) cA cI 2 2 (defaultValue ty) 2
  obtain ⟨o1, o2, o3⟩ := Jvm.Free.Multi.outerC_facts cA 2 (T.setVm vm₁).heap.size 2
  have hsz : (T.setVm vm₁).heap.size = T.heap.size := rfl
  have al : s.vm.Alike Z.vm := hZ.alike.symm
  have EE : Ext T.heap (Jvm.Free.Multi.fill (T.setVm vm₁) cA cI 2 2 (defaultValue ty) 2).heap := ext_of fun a q => Jvm.Free.Multi.fill_old (T.setVm vm₁) cA cI 2 2 (defaultValue ty) q 2
  have inn : ∀ j, j < 2 → Arv Z (Jvm.Free.Multi.fill (T.setVm vm₁) cA cI 2 2 (defaultValue ty) 2).heap (T.heap.size + 1 + j) cI ty (2 : Int32) [defaultValue ty, defaultValue ty] (defaultValue ty) := fun j hj => by
    have hget := Jvm.Free.Multi.fill_inner (T.setVm vm₁) cA cI 2 2 (defaultValue ty) 2 j hj
    refine ⟨_, ⟨hget, State.isArrayOf_alike al (hI 2 (defaultValue ty)).1, (hI 2 (defaultValue ty)).2⟩, rfl, by simp [Jvm.Free.Multi.innerC, hc2], by decide, fun i hi => ?_, fun i hi => ?_⟩
    · simp only [Jvm.Free.Multi.innerC, Array.size_replicate] at hi ⊢
      match i, hi with
      | 0, _ => rfl
      | 1, _ => rfl
    · simp only [Jvm.Free.Multi.innerC, Array.size_replicate] at hi
      match i, hi with
      | 0, _ => exact hdf
      | 1, _ => exact hdf
  have hZc : Z.vm.findClass (FieldType.array ty).toString = some cI := by rw [← hZ.alike.findClass]; exact hfC
  refine (kt _ cA cI T.heap.size rfl f1 EE ?_ (inn 0 (by decide)) (inn 1 (by decide)) hZc p e s m args below meth c _ _ C X' N rfl).thru st
  refine ⟨_, ⟨f2, State.isArrayOf_alike al (hO 2 _ 2).1, (hO 2 _ 2).2⟩, o1, by rw [o3, hc2], by decide, fun i hi => ?_, fun i hi => ?_⟩
  · rw [o3] at hi
    rw [Jvm.Free.Multi.outerC_slot cA 2 _ 2 i hi, if_pos hi]
    match i, hi with
    | 0, _ => rfl
    | 1, _ => rfl
  · rw [o3] at hi
    match i, hi with
    | 0, _ => rfl
    | 1, _ => rfl
theorem castY {KK : String} {index : Nat} {a : Addr} (hd : decode bs pc = .ok (.checkcast index, 3)) (w : (Cond.classLink y.cls index KK).before a0 Z = true) (F : Ins Z h a KK true) (hp : pc + 3 = pc') (kt : Go l Z R y bs ml ret n0 Q h k n pc' L (.ref a :: St)) : Go l Z R y bs ml ret n0 Q h k n pc L (.ref a :: St) := by
  subst hp
  intro p e s m args below meth c T locs C X N eT
  obtain ⟨T', X', e', st⟩ := Jvm.RoadKit.castY X C.1 C.2.2.2.2.2.2.2 C.2.2.2.1 w eT F (g := mkF m pc L (.ref a :: St)) rfl rfl (hb C.2.1 hd)
  exact (kt p e s m args below meth c T' locs C X' N e').thru st
theorem instY {KK : String} {index : Nat} {a : Addr} (hd : decode bs pc = .ok (.instanceof index, 3)) (w : (Cond.classLink y.cls index KK).before a0 Z = true) (F : Ins Z h a KK true) (hp : pc + 3 = pc') (kt : Go l Z R y bs ml ret n0 Q h k n pc' L (.int 1 :: St)) : Go l Z R y bs ml ret n0 Q h k n pc L (.ref a :: St) := by
  subst hp
  intro p e s m args below meth c T locs C X N eT
  obtain ⟨T', X', e', st⟩ := Jvm.RoadKit.instY X C.1 C.2.2.2.2.2.2.2 C.2.2.2.1 w eT F (g := mkF m pc L (.ref a :: St)) rfl rfl (hb C.2.1 hd)
  exact (kt p e s m args below meth c T' locs C X' N e').thru st
theorem instNo {KK CC : String} {index : Nat} {a : Addr} (hd : decode bs pc = .ok (.instanceof index, 3)) (w : (Cond.classLink y.cls index KK).before a0 Z = true) (E : Exa Z h a CC) (F : ∃ c t, Z.vm.findClass CC = some c ∧ Z.vm.findClass KK = some t ∧ Z.vm.assignable c t = false) (hp : pc + 3 = pc') (kt : Go l Z R y bs ml ret n0 Q h k n pc' L (.int 0 :: St)) : Go l Z R y bs ml ret n0 Q h k n pc L (.ref a :: St) := by
  subst hp
  intro p e s m args below meth c T locs C X N eT
  obtain ⟨T', X', e', st⟩ := Jvm.RoadKit.instNo X C.1 C.2.2.2.2.2.2.2 C.2.2.2.1 w eT E F (g := mkF m pc L (.ref a :: St)) rfl rfl (hb C.2.1 hd)
  exact (kt p e s m args below meth c T' locs C X' N e').thru st
theorem instNull {index : Nat} (hd : decode bs pc = .ok (.instanceof index, 3)) (hp : pc + 3 = pc') (kt : Go l Z R y bs ml ret n0 Q h k n pc' L (.int 0 :: St)) : Go l Z R y bs ml ret n0 Q h k n pc L (.null :: St) := by
  subst hp
  intro p e s m args below meth c T locs C X N eT
  exact (kt p e s m args below meth c T locs C X N eT).thru (X.instanceofNull C.1 (g := mkF m pc L (.null :: St)) rfl rfl (hb C.2.1 hd))
theorem castNull {index : Nat} (hd : decode bs pc = .ok (.checkcast index, 3)) (hp : pc + 3 = pc') (kt : Go l Z R y bs ml ret n0 Q h k n pc' L (.null :: St)) : Go l Z R y bs ml ret n0 Q h k n pc L (.null :: St) := by
  subst hp
  intro p e s m args below meth c T locs C X N eT
  exact (kt p e s m args below meth c T locs C X N eT).thru (X.checkcastNull C.1 (g := mkF m pc L (.null :: St)) rfl rfl (hb C.2.1 hd))
theorem initO {index : Nat} {a : Addr} {W : Nat} (hd : decode bs pc = .ok (.invokespecial index, 3)) (w1 : (Cond.methodLink y.cls index Lib.objectInit).before a0 Z = true) (w2 : (Cond.instanceMethod Lib.objectInit).before a0 Z = true) (w3 : (Cond.code Lib.objectInit ⟨#[0xb1]⟩ 1 none).before a0 Z = true) (hsz : L.size = ml) (hf : 1 ≤ R.frames) (hW : (St.map fun v => v.category).sum ≤ W) (hl : W + 12 ≤ R.locals) (hp : pc + 3 = pc') (kt : Go l Z R y bs ml ret n0 Q h k n pc' L St) : Go l Z R y bs ml ret n0 Q h k n pc L (.ref a :: St) := by
  subst hp
  intro p e s m args below meth c T locs C X N eT
  obtain ⟨T', X', e', st⟩ := Jvm.RoadKit.initO X C.1 C.2.2.2.2.2.2.2 C.2.2.2.1 w1 w2 w3 eT (g := mkF m pc L (.ref a :: St)) rfl (by rw [C.2.2.1]; exact hsz) rfl (hb C.2.1 hd) hf (W := W) (by show 2 * 0 + _ ≤ _; omega) hl
  exact (kt p e s m args below meth c T' locs C X' N e').thru st
theorem callS {z : MethodName} {bz : ByteArray} {mz : Nat} {rz : Option FieldType} {rm : Room} {as' : Array Value} {Q' : Option Value → Heap → Prop} {W : Nat} {argsL rest : List Value} {ps : List FieldType} {rt : Option FieldType} {index : Nat} (hd : decode bs pc = .ok (.invokestatic index, 3)) (w1 : (Cond.methodLink y.cls index z).before a0 Z = true) (w2 : (Cond.static z).before a0 Z = true) (w3 : (Cond.initialized z.cls).before a0 Z = true) (w4 : (Cond.code z bz mz rz).before a0 Z = true) (hy : z.cls ≠ "java/lang/invoke/MethodHandle" ∧ z.cls ≠ "java/lang/invoke/VarHandle")
    (con : Con l Z rm z bz mz rz n0 as' h Q') (hf : rm.frames + 1 ≤ R.frames) (hl : W + (mz + 11) + rm.locals ≤ R.locals) (ek : k + rm.cells = k') (en : n + rm.slots = n') (hc : k' ≤ R.cells) (hn : n' ≤ R.slots) (hsz : L.size = ml) (pd : parseMethodDescriptor z.desc = some ⟨ps, rt⟩) (hlen : argsL.length = ps.length) (hst : St = argsL.reverse ++ rest) (has : as' = argsL.toArray) (hW : (rest.map fun v => v.category).sum ≤ W) (hp : pc + 3 = pc')
    (kt : ∀ h' v, Q' v h' → Go l Z R y bs ml ret n0 Q h' k' n' pc' L (v.toList ++ rest)) : Go l Z R y bs ml ret n0 Q h k n pc L St := by
  subst hp has ek en
  intro p e s m args below meth c T locs C X N eT
  have hZ := C.2.2.2.2.2.2.2
  obtain ⟨v, _, ⟨T', Lp, kp, np⟩, -, X', ⟨Lc, ⟨hQ, N'⟩, e1, e2, e3⟩, st⟩ := Jvm.LawKit.callS X C.1 (y := z) C.2.2.2.1 (mvT hZ w1) (mvT hZ w2) (mvT hZ w3) (mvT hZ w4) hy (backOf (W := W) (Q := fun v h' L => Q' v h' ∧ Fr n0 L) (con []) hZ w4 w3 hf hl) (g := mkF m pc L St) rfl (by rw [C.2.2.1]; exact hsz) (argsL := argsL) (rest := rest) (lenOf pd hlen) hst (by show 2 * 0 + _ ≤ _; omega) (hb C.2.1 hd) (fun _ _ => ⟨rfl, eT, hc, hn⟩)
  dsimp only [Pt.U, Pt.locs, Pt.cells, Pt.slots] at X' e1 e2 e3 st hQ
  subst e1 e2 e3
  exact (kt T'.heap v hQ p e s m args below meth c T' _ C X' (Fr.app N N') rfl).thru st
theorem callI {z : MethodName} {bz : ByteArray} {mz : Nat} {rm : Room} {as' : Array Value} {Q' : Option Value → Heap → Prop} {W : Nat} {argsL rest : List Value} {ps : List FieldType} {rt : Option FieldType} {index : Nat} {a : Addr} (hd : decode bs pc = .ok (.invokespecial index, 3)) (hi : z.name = "<init>") (w1 : (Cond.methodLink y.cls index z).before a0 Z = true) (w2 : (Cond.instanceMethod z).before a0 Z = true) (w3 : (Cond.initialized z.cls).before a0 Z = true) (w4 : (Cond.code z bz mz none).before a0 Z = true) (hy : z.cls ≠ "java/lang/invoke/MethodHandle" ∧ z.cls ≠ "java/lang/invoke/VarHandle")
    (con : Con l Z rm z bz mz none n0 as' h Q') (hf : rm.frames + 1 ≤ R.frames) (hl : W + (mz + 11) + rm.locals ≤ R.locals) (ek : k + rm.cells = k') (en : n + rm.slots = n') (hc : k' ≤ R.cells) (hn : n' ≤ R.slots) (hsz : L.size = ml) (pd : parseMethodDescriptor z.desc = some ⟨ps, rt⟩) (hlen : argsL.length = ps.length) (hst : St = argsL.reverse ++ .ref a :: rest) (has : as' = (.ref a :: argsL).toArray) (hW : (rest.map fun v => v.category).sum ≤ W) (hp : pc + 3 = pc')
    (kt : ∀ h' v, Q' v h' → Go l Z R y bs ml ret n0 Q h' k' n' pc' L (v.toList ++ rest)) : Go l Z R y bs ml ret n0 Q h k n pc L St := by
  subst hp has ek en
  intro p e s m args below meth c T locs C X N eT
  have hZ := C.2.2.2.2.2.2.2
  obtain ⟨v, _, ⟨T', Lp, kp, np⟩, -, X', ⟨Lc, ⟨hQ, N'⟩, e1, e2, e3⟩, st⟩ := X.specialBack C.1 (y := z) hi C.2.2.2.1 (mvT hZ w1) (mvT hZ w2) (mvT hZ w4) hy (backOf (W := W) (Q := fun v h' L => Q' v h' ∧ Fr n0 L) (con []) hZ w4 w3 hf hl) (g := mkF m pc L St) rfl (by rw [C.2.2.1]; exact hsz) (Steps.refl _) (a := a) (argsL := argsL) (rest := rest) (lenOf pd hlen) hst (by show 2 * 0 + _ ≤ _; omega) (hb C.2.1 hd) (fun _ _ => ⟨rfl, eT, hc, hn⟩)
  dsimp only [Pt.U, Pt.locs, Pt.cells, Pt.slots] at X' e1 e2 e3 st hQ
  subst e1 e2 e3
  exact (kt T'.heap v hQ p e s m args below meth c T' _ C X' (Fr.app N N') rfl).thru fun t q => st.trans q
theorem callV {z : MethodName} {bz : ByteArray} {mz : Nat} {rz : Option FieldType} {rm : Room} {as' : Array Value} {Q' : Option Value → Heap → Prop} {W : Nat} {argsL rest : List Value} {ps : List FieldType} {rt : Option FieldType} {index : Nat} {CC : String} {a : Addr} (hd : decode bs pc = .ok (.invokevirtual index, 3)) (w1 : (Cond.methodLink y.cls index z).before a0 Z = true) (w2 : (Cond.declares z).before a0 Z = true) (ws : (Cond.selects CC z z).before a0 Z = true) (wi : (Cond.instanceMethod z).before a0 Z = true) (w3 : (Cond.initialized z.cls).before a0 Z = true) (w4 : (Cond.code z bz mz rz).before a0 Z = true) (hy : z.cls ≠ "java/lang/invoke/MethodHandle" ∧ z.cls ≠ "java/lang/invoke/VarHandle") (E : Exa Z h a CC)
    (con : Con l Z rm z bz mz rz n0 as' h Q') (hf : rm.frames + 1 ≤ R.frames) (hl : W + (mz + 11) + rm.locals ≤ R.locals) (ek : k + rm.cells = k') (en : n + rm.slots = n') (hc : k' ≤ R.cells) (hn : n' ≤ R.slots) (hsz : L.size = ml) (pd : parseMethodDescriptor z.desc = some ⟨ps, rt⟩) (hlen : argsL.length = ps.length) (hst : St = argsL.reverse ++ .ref a :: rest) (has : as' = (.ref a :: argsL).toArray) (hW : (rest.map fun v => v.category).sum ≤ W) (hp : pc + 3 = pc')
    (kt : ∀ h' v, Q' v h' → Go l Z R y bs ml ret n0 Q h' k' n' pc' L (v.toList ++ rest)) : Go l Z R y bs ml ret n0 Q h k n pc L St := by
  subst hp has ek en
  intro p e s m args below meth c T locs C X N eT
  have hZ := C.2.2.2.2.2.2.2
  obtain ⟨cq, kq, qa, qb, qc⟩ := isOf hZ eT E
  obtain ⟨v, _, ⟨T', Lp, kp, np⟩, -, X', ⟨Lc, ⟨hQ, N'⟩, e1, e2, e3⟩, st⟩ := X.virtualBack C.1 (y := z) (z := z) C.2.2.2.1 (mvT hZ w1) (mvT hZ w2) (notFace_of_selects (args := #[]) (mvT hZ ws)) (mvT hZ ws) (mvT hZ wi) hy (backOf (W := W) (Q := fun v h' L => Q' v h' ∧ Fr n0 L) (con []) hZ w4 w3 hf hl) qa qc (g := mkF m pc L St) rfl (by rw [C.2.2.1]; exact hsz) (Steps.refl _) (argsL := argsL) (rest := rest) (lenOf pd hlen) hst (by show 2 * 0 + _ ≤ _; omega) (hb C.2.1 hd) (fun _ _ => ⟨rfl, eT, hc, hn⟩)
  dsimp only [Pt.U, Pt.locs, Pt.cells, Pt.slots] at X' e1 e2 e3 st hQ
  subst e1 e2 e3
  exact (kt T'.heap v hQ p e s m args below meth c T' _ C X' (Fr.app N N') rfl).thru fun t q => st.trans q
theorem callVF {z : MethodName} {bz : ByteArray} {mz : Nat} {rz : Option FieldType} {rm : Room} {as' : Array Value} {Q' : Option Value → Heap → Prop} {W : Nat} {argsL rest : List Value} {ps : List FieldType} {rt : Option FieldType} {index cnt : Nat} {x' : MethodName} {CC : String} {a : Addr} (hd : decode bs pc = .ok (.invokeinterface index cnt, 5)) (w1 : (Cond.methodLink y.cls index x').before a0 Z = true) (w2 : (Cond.declares x').before a0 Z = true) (wf : (Cond.interfaceMethod x'.cls x'.cls x'.name x'.desc).before a0 Z = true) (ws : (Cond.selects CC x' z).before a0 Z = true) (wi : (Cond.instanceMethod z).before a0 Z = true) (wp : (Cond.publicMethod z).before a0 Z = true) (wu : (Cond.unhidden CC x'.name x'.desc).before a0 Z = true) (wc : (Cond.castable CC x'.cls).before a0 Z = true) (w3 : (Cond.initialized z.cls).before a0 Z = true) (w4 : (Cond.code z bz mz rz).before a0 Z = true) (hy : x'.cls ≠ "java/lang/invoke/MethodHandle" ∧ x'.cls ≠ "java/lang/invoke/VarHandle") (E : Exa Z h a CC)
    (con : Con l Z rm z bz mz rz n0 as' h Q') (hf : rm.frames + 1 ≤ R.frames) (hl : W + (mz + 11) + rm.locals ≤ R.locals) (ek : k + rm.cells = k') (en : n + rm.slots = n') (hc : k' ≤ R.cells) (hn : n' ≤ R.slots) (hsz : L.size = ml) (pd : parseMethodDescriptor x'.desc = some ⟨ps, rt⟩) (hlen : argsL.length = ps.length) (hst : St = argsL.reverse ++ .ref a :: rest) (has : as' = (.ref a :: argsL).toArray) (hW : (rest.map fun v => v.category).sum ≤ W) (hp : pc + 5 = pc')
    (kt : ∀ h' v, Q' v h' → Go l Z R y bs ml ret n0 Q h' k' n' pc' L (v.toList ++ rest)) : Go l Z R y bs ml ret n0 Q h k n pc L St := by
  subst hp has ek en
  intro p e s m args below meth c T locs C X N eT
  have hZ := C.2.2.2.2.2.2.2
  obtain ⟨cq, kq, qa, qb, qc⟩ := isOf hZ eT E
  obtain ⟨v, _, ⟨T', Lp, kp, np⟩, -, X', ⟨Lc, ⟨hQ, N'⟩, e1, e2, e3⟩, st⟩ := X.interfaceBack C.1 (xi := x') (y := z) C.2.2.2.1 (mvT hZ w1) (mvT hZ w2) (mvT hZ wf (by have g1 := hy.1; have g2 := hy.2; simp [Cond.onTables, Cond.keepsFace, Cond.keeps, Cond.steady, Cond.faceAtom, g1, g2])) (mvT hZ ws) (mvT hZ wi) (mvT hZ wp) (mvT hZ wu) (mvT hZ wc) hy (backOf (W := W) (Q := fun v h' L => Q' v h' ∧ Fr n0 L) (con []) hZ w4 w3 hf hl) qa qb qc (g := mkF m pc L St) rfl (by rw [C.2.2.1]; exact hsz) (Steps.refl _) (argsL := argsL) (rest := rest) (lenOf pd hlen) hst (by show 2 * 0 + _ ≤ _; omega) (hb C.2.1 hd) (fun _ _ => ⟨rfl, eT, hc, hn⟩)
  dsimp only [Pt.U, Pt.locs, Pt.cells, Pt.slots] at X' e1 e2 e3 st hQ
  subst e1 e2 e3
  exact (kt T'.heap v hQ p e s m args below meth c T' _ C X' (Fr.app N N') rfl).thru fun t q => st.trans q
theorem callP {z : MethodName} {bz : ByteArray} {mz : Nat} {rz : Option FieldType} {rm : Room} {as' : Array Value} {Q' : Option Value → Heap → Prop} {W : Nat} {argsL rest : List Value} {ps : List FieldType} {rt : Option FieldType} {index : Nat} {a : Addr} {CC : String} (hd : decode bs pc = .ok (.invokevirtual index, 3)) (w1 : (Cond.methodLink y.cls index z).before a0 Z = true) (wi : (Cond.instanceMethod z).before a0 Z = true) {nn : Nat} (win : (Cond.instantiable z.cls nn).before a0 Z = true) (wp : (Cond.privateMethod z).before a0 Z = true) (w3 : (Cond.initialized z.cls).before a0 Z = true) (w4 : (Cond.code z bz mz rz).before a0 Z = true) (hy : z.cls ≠ "java/lang/invoke/MethodHandle" ∧ z.cls ≠ "java/lang/invoke/VarHandle") (E : Exa Z h a CC)
    (con : Con l Z rm z bz mz rz n0 as' h Q') (hf : rm.frames + 1 ≤ R.frames) (hl : W + (mz + 11) + rm.locals ≤ R.locals) (ek : k + rm.cells = k') (en : n + rm.slots = n') (hc : k' ≤ R.cells) (hn : n' ≤ R.slots) (hsz : L.size = ml) (pd : parseMethodDescriptor z.desc = some ⟨ps, rt⟩) (hlen : argsL.length = ps.length) (hst : St = argsL.reverse ++ .ref a :: rest) (has : as' = (.ref a :: argsL).toArray) (hW : (rest.map fun v => v.category).sum ≤ W) (hp : pc + 3 = pc')
    (kt : ∀ h' v, Q' v h' → Go l Z R y bs ml ret n0 Q h' k' n' pc' L (v.toList ++ rest)) : Go l Z R y bs ml ret n0 Q h k n pc L St := by
  subst hp has ek en
  intro p e s m args below meth c T locs C X N eT
  have hZ := C.2.2.2.2.2.2.2
  have ws : (Cond.selects z.cls z z).before a0 Z = true := by
    obtain ⟨t, kt, g1, g2, g3, g4, -, -⟩ := Cond.instantiable_spec win
    exact selects_self_of_private g1 g2 (Bool.or_eq_false_iff.mp g4).1 (Cond.privateMethod_at wp) wi hy
  obtain ⟨cq, qa, qb⟩ := E.cell
  obtain ⟨v, _, ⟨T', Lp, kp, np⟩, -, X', ⟨Lc, ⟨hQ, N'⟩, e1, e2, e3⟩, st⟩ := X.privateBack C.1 (y := z) C.2.2.2.1 (mvT hZ w1) (mvT hZ wi) (mvT hZ ws) (Cond.privateMethod_at (mvP hZ wp (args := #[]))) (mvT hZ w4) hy (backOf (W := W) (Q := fun v h' L => Q' v h' ∧ Fr n0 L) (con []) hZ w4 w3 hf hl) (g := mkF m pc L St) rfl (by rw [C.2.2.1]; exact hsz) (Steps.refl _) (a := a) (by rw [eT]; exact qa) qb (argsL := argsL) (rest := rest) (lenOf pd hlen) hst (by show 2 * 0 + _ ≤ _; omega) (hb C.2.1 hd) (fun _ _ => ⟨rfl, eT, hc, hn⟩)
  dsimp only [Pt.U, Pt.locs, Pt.cells, Pt.slots] at X' e1 e2 e3 st hQ
  subst e1 e2 e3
  exact (kt T'.heap v hQ p e s m args below meth c T' _ C X' (Fr.app N N') rfl).thru fun t q => st.trans q
theorem gcls {CC : String} {index : Nat} {a mr : Addr} {W : Nat} (hd : decode bs pc = .ok (.invokevirtual index, 3)) (w1 : (Cond.methodLink y.cls index ⟨"java/lang/Object", "getClass", "()Ljava/lang/Class;"⟩).before a0 Z = true) (w2 : (Cond.declares ⟨"java/lang/Object", "getClass", "()Ljava/lang/Class;"⟩).before a0 Z = true) (w3 : (Cond.noSuperclass "java/lang/Object").before a0 Z = true) (w4 : (Cond.selects CC ⟨"java/lang/Object", "getClass", "()Ljava/lang/Class;"⟩ ⟨"java/lang/Object", "getClass", "()Ljava/lang/Class;"⟩).before a0 Z = true)
    (w5 : (Cond.instanceMethod ⟨"java/lang/Object", "getClass", "()Ljava/lang/Class;"⟩).before a0 Z = true) (w6 : (Cond.native ⟨"java/lang/Object", "getClass", "()Ljava/lang/Class;"⟩).before a0 Z = true) (E : Exa Z h a CC) (M : Mir Z CC mr) (hsz : L.size = ml) (hf : 1 ≤ R.frames) (hW : (St.map fun v => v.category).sum ≤ W) (hl : W + (nativeFrameWords "java/lang/Object" "getClass" 1 + 11) ≤ R.locals) (hp : pc + 3 = pc') (kt : Go l Z R y bs ml ret n0 Q h k n pc' L (.ref mr :: St)) : Go l Z R y bs ml ret n0 Q h k n pc L (.ref a :: St) := by
  subst hp
  intro p e s m args below meth c T locs C X N eT
  obtain ⟨T', X', e', st⟩ := Jvm.RoadKit.gcls X C.1 C.2.2.2.2.2.2.2 C.2.2.2.1 w1 w2 w3 w4 w5 w6 eT E M (g := mkF m pc L (.ref a :: St)) rfl (by rw [C.2.2.1]; exact hsz) rfl (hb C.2.1 hd) hf (W := W) (by show 2 * 0 + _ ≤ _; omega) hl
  exact (kt p e s m args below meth c T' locs C X' N e').thru st
theorem cpA {index : Nat} {a b : Addr} {ka kb : ClassId} {ty ty' : FieldType} {z z' sp dp nn : Int32} {vs vd us : List Value} {dv dd : Value} {W : Nat} (hd : decode bs pc = .ok (.invokestatic index, 3)) (w1 : (Cond.methodLink y.cls index Jvm.Stand.acN).before a0 Z = true) (w2 : (Cond.native Jvm.Stand.acN).before a0 Z = true) (w3 : (Cond.static Jvm.Stand.acN).before a0 Z = true) (w4 : (Cond.initialized "java/lang/System").before a0 Z = true)
    (A : Arv Z h a ka ty z vs dv) (B : Arv Z h b kb ty' z' vd dd) (hty : (ty = ty' ∧ refKind ty = false) ∨ (refKind ty = true ∧ refKind ty' = true ∧ StoL Z h b us)) (h1 : ¬ sp < 0) (h2 : ¬ dp < 0) (h3 : ¬ nn < 0) (h4 : sp.toNatClampNeg + nn.toNatClampNeg ≤ z.toNatClampNeg) (h5 : dp.toNatClampNeg + nn.toNatClampNeg ≤ z'.toNatClampNeg)
    (hus : us = (List.range nn.toNatClampNeg).map fun i => vs.getD (sp.toNatClampNeg + i) dv) (hlv : dp.toNatClampNeg + nn.toNatClampNeg ≤ vd.length) (ge : n0 ≤ b) (hsz : L.size = ml) (hf : 1 ≤ R.frames) (hW : (St.map fun v => v.category).sum ≤ W) (hlo : W + (nativeFrameWords "java/lang/System" "arraycopy" 5 + 11) ≤ R.locals) (hp : pc + 3 = pc')
    (kt : ∀ h', Keep h h' [b] → Arv Z h' b kb ty' z' (vd.take dp.toNatClampNeg ++ us ++ vd.drop (dp.toNatClampNeg + nn.toNatClampNeg)) dd → Go l Z R y bs ml ret n0 Q h' k n pc' L St) : Go l Z R y bs ml ret n0 Q h k n pc L (.int nn :: .int dp :: .ref b :: .int sp :: .ref a :: St) := by
  subst hp
  intro p e s m args below meth c T locs C X N eT
  obtain ⟨T', h', Ls, X', e', N', K', V', st⟩ := Jvm.RoadKit.cpA X C.1 C.2.2.2.2.2.2.2 C.2.2.2.1 w1 w2 w3 w4 eT A B hty h1 h2 h3 h4 h5 hus hlv N ge (g := mkF m pc L (.int nn :: .int dp :: .ref b :: .int sp :: .ref a :: St)) rfl (by rw [C.2.2.1]; exact hsz) rfl (hb C.2.1 hd) hf (W := W) (by show 2 * 0 + _ ≤ _; omega) hlo
  exact (kt h' K' V' p e s m args below meth c T' Ls C X' N' e').thru st
theorem newRE {CC ad : String} {index : Nat} {x : Int32} {cap : Nat} (hd : decode bs pc = .ok (.anewarray index, 3)) (w1 : (Cond.classLink y.cls index CC).before a0 Z = true) (w2 : (Cond.arrayOver (.object CC)).before a0 Z = true) (hn : ¬ x < 0) (hcap : x.toNatClampNeg ≤ cap) (hb' : cap * 8 ≤ 536870912) (ek : k + 1 = k') (en : n + cap = n') (hc : k' ≤ R.cells) (hl : n' ≤ R.slots) (had : "[" ++ (FieldType.object CC).toString = ad) (hp : pc + 3 = pc')
    (kt : ∀ h' cA a, a = h.size → Ext h h' → Arr Z h' a (newA cA (.object CC) x) (.object CC) → Ovr Z cA CC → Exa Z h' a ad → Go l Z R y bs ml ret n0 Q h' k' n' pc' L (.ref a :: St)) : Go l Z R y bs ml ret n0 Q h k n pc L (.int x :: St) := by
  subst hp ek en
  intro p e s m args below meth c T locs C X N eT
  obtain ⟨T', h', cA, X', e', E, A, Ex, O, st⟩ := Jvm.RoadKit.newRE X C.1 C.2.2.2.2.2.2.2 C.2.2.2.1 w1 w2 eT (g := mkF m pc L (.int x :: St)) rfl (hb C.2.1 hd) rfl hn hcap hb' hc hl had
  exact (kt h' cA _ rfl E A O Ex p e s m args below meth c T' _ C X' N e').thru st
theorem callS0 {z : MethodName} {bz : ByteArray} {mz : Nat} {rz : Option FieldType} {rm : Room} {as' : Array Value} {r : Option Value} {St' : List Value} {W : Nat} {argsL rest : List Value} {ps : List FieldType} {rt : Option FieldType} {index : Nat} (hd : decode bs pc = .ok (.invokestatic index, 3)) (w1 : (Cond.methodLink y.cls index z).before a0 Z = true) (w2 : (Cond.static z).before a0 Z = true) (w3 : (Cond.initialized z.cls).before a0 Z = true) (w4 : (Cond.code z bz mz rz).before a0 Z = true) (hy : z.cls ≠ "java/lang/invoke/MethodHandle" ∧ z.cls ≠ "java/lang/invoke/VarHandle")
    (con : Con l Z rm z bz mz rz n0 as' h (Ret r h)) (hf : rm.frames + 1 ≤ R.frames) (hl : W + (mz + 11) + rm.locals ≤ R.locals) (ek : k + rm.cells = k') (en : n + rm.slots = n') (hc : k' ≤ R.cells) (hn : n' ≤ R.slots) (hsz : L.size = ml) (pd : parseMethodDescriptor z.desc = some ⟨ps, rt⟩) (hlen : argsL.length = ps.length) (hst : St = argsL.reverse ++ rest) (has : as' = argsL.toArray) (hW : (rest.map fun v => v.category).sum ≤ W) (hs : r.toList ++ rest = St') (hp : pc + 3 = pc')
    (kt : Go l Z R y bs ml ret n0 Q h k' n' pc' L St') : Go l Z R y bs ml ret n0 Q h k n pc L St := by
  subst hs
  refine callS hd w1 w2 w3 w4 hy con hf hl ek en hc hn hsz pd hlen hst has hW hp ?_
  rintro h' v ⟨rfl, rfl⟩
  exact kt
theorem callI0 {z : MethodName} {bz : ByteArray} {mz : Nat} {rm : Room} {as' : Array Value} {r : Option Value} {St' : List Value} {W : Nat} {argsL rest : List Value} {ps : List FieldType} {rt : Option FieldType} {index : Nat} {a : Addr} (hd : decode bs pc = .ok (.invokespecial index, 3)) (hi : z.name = "<init>") (w1 : (Cond.methodLink y.cls index z).before a0 Z = true) (w2 : (Cond.instanceMethod z).before a0 Z = true) (w3 : (Cond.initialized z.cls).before a0 Z = true) (w4 : (Cond.code z bz mz none).before a0 Z = true) (hy : z.cls ≠ "java/lang/invoke/MethodHandle" ∧ z.cls ≠ "java/lang/invoke/VarHandle")
    (con : Con l Z rm z bz mz none n0 as' h (Ret r h)) (hf : rm.frames + 1 ≤ R.frames) (hl : W + (mz + 11) + rm.locals ≤ R.locals) (ek : k + rm.cells = k') (en : n + rm.slots = n') (hc : k' ≤ R.cells) (hn : n' ≤ R.slots) (hsz : L.size = ml) (pd : parseMethodDescriptor z.desc = some ⟨ps, rt⟩) (hlen : argsL.length = ps.length) (hst : St = argsL.reverse ++ .ref a :: rest) (has : as' = (.ref a :: argsL).toArray) (hW : (rest.map fun v => v.category).sum ≤ W) (hs : r.toList ++ rest = St') (hp : pc + 3 = pc')
    (kt : Go l Z R y bs ml ret n0 Q h k' n' pc' L St') : Go l Z R y bs ml ret n0 Q h k n pc L St := by
  subst hs
  refine callI hd hi w1 w2 w3 w4 hy con hf hl ek en hc hn hsz pd hlen hst has hW hp ?_
  rintro h' v ⟨rfl, rfl⟩
  exact kt
theorem callV0 {z : MethodName} {bz : ByteArray} {mz : Nat} {rz : Option FieldType} {rm : Room} {as' : Array Value} {r : Option Value} {St' : List Value} {W : Nat} {argsL rest : List Value} {ps : List FieldType} {rt : Option FieldType} {index : Nat} {CC : String} {a : Addr} (hd : decode bs pc = .ok (.invokevirtual index, 3)) (w1 : (Cond.methodLink y.cls index z).before a0 Z = true) (w2 : (Cond.declares z).before a0 Z = true) (ws : (Cond.selects CC z z).before a0 Z = true) (wi : (Cond.instanceMethod z).before a0 Z = true) (w3 : (Cond.initialized z.cls).before a0 Z = true) (w4 : (Cond.code z bz mz rz).before a0 Z = true) (hy : z.cls ≠ "java/lang/invoke/MethodHandle" ∧ z.cls ≠ "java/lang/invoke/VarHandle") (E : Exa Z h a CC)
    (con : Con l Z rm z bz mz rz n0 as' h (Ret r h)) (hf : rm.frames + 1 ≤ R.frames) (hl : W + (mz + 11) + rm.locals ≤ R.locals) (ek : k + rm.cells = k') (en : n + rm.slots = n') (hc : k' ≤ R.cells) (hn : n' ≤ R.slots) (hsz : L.size = ml) (pd : parseMethodDescriptor z.desc = some ⟨ps, rt⟩) (hlen : argsL.length = ps.length) (hst : St = argsL.reverse ++ .ref a :: rest) (has : as' = (.ref a :: argsL).toArray) (hW : (rest.map fun v => v.category).sum ≤ W) (hs : r.toList ++ rest = St') (hp : pc + 3 = pc')
    (kt : Go l Z R y bs ml ret n0 Q h k' n' pc' L St') : Go l Z R y bs ml ret n0 Q h k n pc L St := by
  subst hs
  refine callV hd w1 w2 ws wi w3 w4 hy E con hf hl ek en hc hn hsz pd hlen hst has hW hp ?_
  rintro h' v ⟨rfl, rfl⟩
  exact kt
theorem callVF0 {z : MethodName} {bz : ByteArray} {mz : Nat} {rz : Option FieldType} {rm : Room} {as' : Array Value} {r : Option Value} {St' : List Value} {W : Nat} {argsL rest : List Value} {ps : List FieldType} {rt : Option FieldType} {index cnt : Nat} {x' : MethodName} {CC : String} {a : Addr} (hd : decode bs pc = .ok (.invokeinterface index cnt, 5)) (w1 : (Cond.methodLink y.cls index x').before a0 Z = true) (w2 : (Cond.declares x').before a0 Z = true) (wf : (Cond.interfaceMethod x'.cls x'.cls x'.name x'.desc).before a0 Z = true) (ws : (Cond.selects CC x' z).before a0 Z = true) (wi : (Cond.instanceMethod z).before a0 Z = true) (wp : (Cond.publicMethod z).before a0 Z = true) (wu : (Cond.unhidden CC x'.name x'.desc).before a0 Z = true) (wc : (Cond.castable CC x'.cls).before a0 Z = true) (w3 : (Cond.initialized z.cls).before a0 Z = true) (w4 : (Cond.code z bz mz rz).before a0 Z = true) (hy : x'.cls ≠ "java/lang/invoke/MethodHandle" ∧ x'.cls ≠ "java/lang/invoke/VarHandle") (E : Exa Z h a CC)
    (con : Con l Z rm z bz mz rz n0 as' h (Ret r h)) (hf : rm.frames + 1 ≤ R.frames) (hl : W + (mz + 11) + rm.locals ≤ R.locals) (ek : k + rm.cells = k') (en : n + rm.slots = n') (hc : k' ≤ R.cells) (hn : n' ≤ R.slots) (hsz : L.size = ml) (pd : parseMethodDescriptor x'.desc = some ⟨ps, rt⟩) (hlen : argsL.length = ps.length) (hst : St = argsL.reverse ++ .ref a :: rest) (has : as' = (.ref a :: argsL).toArray) (hW : (rest.map fun v => v.category).sum ≤ W) (hs : r.toList ++ rest = St') (hp : pc + 5 = pc')
    (kt : Go l Z R y bs ml ret n0 Q h k' n' pc' L St') : Go l Z R y bs ml ret n0 Q h k n pc L St := by
  subst hs
  refine callVF hd w1 w2 wf ws wi wp wu wc w3 w4 hy E con hf hl ek en hc hn hsz pd hlen hst has hW hp ?_
  rintro h' v ⟨rfl, rfl⟩
  exact kt
end Laws
end Jvm.OwnW
namespace Jvm.OwnW
open Sem ClassFile Op Lib Jvm.Stand Jvm.Free Jvm.LawKit Jvm.RoadKit
section Dbl
variable {l : Launch} {Z : State} {R : Room} {y : MethodName} {bs : ByteArray} {ml : Nat} {ret : Option FieldType} {n0 : Nat} {Q : Option Value → Heap → Prop} {h : Heap} {k n : Nat} {k' n' : Nat} {pc pc' : Nat} {L L' : Array Slot} {St : List Value} {a0 : Array Value}
theorem dload {i : Nat} {v : UInt64} (hd : decode bs pc = .ok (.dload i, 2)) (hl : L[i]? = some (.val (.double v))) (hp : pc + 2 = pc') (kt : Go l Z R y bs ml ret n0 Q h k n pc' L (.double v :: St)) : Go l Z R y bs ml ret n0 Q h k n pc L St := by
  subst hp
  intro p e s m args below meth c T locs C X N eT
  exact (kt p e s m args below meth c T locs C X N eT).thru fun t q => XS.dload X.here C.1 rfl (hb C.2.1 hd) hl q
theorem dloadN {i : Fin 4} {v : UInt64} (hd : decode bs pc = .ok (.dload_n i, 1)) (hl : L[i.val]? = some (.val (.double v))) (hp : pc + 1 = pc') (kt : Go l Z R y bs ml ret n0 Q h k n pc' L (.double v :: St)) : Go l Z R y bs ml ret n0 Q h k n pc L St := by
  subst hp
  intro p e s m args below meth c T locs C X N eT
  exact (kt p e s m args below meth c T locs C X N eT).thru fun t q => XS.dloadN X.here C.1 rfl (hb C.2.1 hd) hl q
theorem dstore {i : Nat} {v : UInt64} (hd : decode bs pc = .ok (.dstore i, 2)) (hl : storeLocals L i (.double v) = some L') (hp : pc + 2 = pc') (kt : Go l Z R y bs ml ret n0 Q h k n pc' L' St) : Go l Z R y bs ml ret n0 Q h k n pc L (.double v :: St) := by
  subst hp
  intro p e s m args below meth c T locs C X N eT
  exact (kt p e s m args below meth c T locs C X N eT).thru fun t q => XS.dstore X.here C.1 rfl (hb C.2.1 hd) rfl hl q
theorem dstoreN {i : Fin 4} {v : UInt64} (hd : decode bs pc = .ok (.dstore_n i, 1)) (hl : storeLocals L i.val (.double v) = some L') (hp : pc + 1 = pc') (kt : Go l Z R y bs ml ret n0 Q h k n pc' L' St) : Go l Z R y bs ml ret n0 Q h k n pc L (.double v :: St) := by
  subst hp
  intro p e s m args below meth c T locs C X N eT
  exact (kt p e s m args below meth c T locs C X N eT).thru fun t q => XS.dstoreN X.here C.1 rfl (hb C.2.1 hd) rfl hl q
theorem dconst0 {v : UInt64} (hd : decode bs pc = .ok (.dconst 0, 1)) (hv : FP.dconst0 = v) (hp : pc + 1 = pc') (kt : Go l Z R y bs ml ret n0 Q h k n pc' L (.double v :: St)) : Go l Z R y bs ml ret n0 Q h k n pc L St := by
  subst hp
  intro p e s m args below meth c T locs C X N eT
  exact (kt p e s m args below meth c T locs C X N eT).thru fun t q => XS.dconst0 X.here C.1 rfl (hb C.2.1 hd) hv q
theorem dconst1 {v : UInt64} (hd : decode bs pc = .ok (.dconst 1, 1)) (hv : FP.dconst1 = v) (hp : pc + 1 = pc') (kt : Go l Z R y bs ml ret n0 Q h k n pc' L (.double v :: St)) : Go l Z R y bs ml ret n0 Q h k n pc L St := by
  subst hp
  intro p e s m args below meth c T locs C X N eT
  exact (kt p e s m args below meth c T locs C X N eT).thru fun t q => XS.dconst1 X.here C.1 rfl (hb C.2.1 hd) hv q
theorem i2d {x : Int32} {v : UInt64} (hd : decode bs pc = .ok (.i2d, 1)) (hv : FP.i2d x = v) (hp : pc + 1 = pc') (kt : Go l Z R y bs ml ret n0 Q h k n pc' L (.double v :: St)) : Go l Z R y bs ml ret n0 Q h k n pc L (.int x :: St) := by
  subst hp
  intro p e s m args below meth c T locs C X N eT
  exact (kt p e s m args below meth c T locs C X N eT).thru fun t q => XS.i2dS X.here C.1 rfl (hb C.2.1 hd) rfl hv q
theorem l2d {x : Int64} {v : UInt64} (hd : decode bs pc = .ok (.l2d, 1)) (hv : FP.l2d x = v) (hp : pc + 1 = pc') (kt : Go l Z R y bs ml ret n0 Q h k n pc' L (.double v :: St)) : Go l Z R y bs ml ret n0 Q h k n pc L (.long x :: St) := by
  subst hp
  intro p e s m args below meth c T locs C X N eT
  exact (kt p e s m args below meth c T locs C X N eT).thru fun t q => XS.l2dS X.here C.1 rfl (hb C.2.1 hd) rfl hv q
theorem dcmp {o : CmpOp} {x z : UInt64} {v : Int32} (hd : decode bs pc = .ok (.dcmp o, 1)) (hv : cmpValue (FP.dcmp x z) o = v) (hp : pc + 1 = pc') (kt : Go l Z R y bs ml ret n0 Q h k n pc' L (.int v :: St)) : Go l Z R y bs ml ret n0 Q h k n pc L (.double z :: .double x :: St) := by
  subst hp
  intro p e s m args below meth c T locs C X N eT
  exact (kt p e s m args below meth c T locs C X N eT).thru fun t q => XS.dcmpS X.here C.1 rfl (hb C.2.1 hd) rfl hv q
theorem dadd {x z v : UInt64} (hd : decode bs pc = .ok (.dadd, 1)) (hn : Jvm.Free.Fl.NoNaN64 (FP.dadd x z)) (hv : FP.dadd x z = v) (hp : pc + 1 = pc') (kt : Go l Z R y bs ml ret n0 Q h k n pc' L (.double v :: St)) : Go l Z R y bs ml ret n0 Q h k n pc L (.double z :: .double x :: St) := by
  subst hp
  intro p e s m args below meth c T locs C X N eT
  exact (kt p e s m args below meth c T locs C X N eT).thru fun t q => XS.daddS X.here C.1 rfl (hb C.2.1 hd) rfl hn hv q
theorem dsub {x z v : UInt64} (hd : decode bs pc = .ok (.dsub, 1)) (hn : Jvm.Free.Fl.NoNaN64 (FP.dsub x z)) (hv : FP.dsub x z = v) (hp : pc + 1 = pc') (kt : Go l Z R y bs ml ret n0 Q h k n pc' L (.double v :: St)) : Go l Z R y bs ml ret n0 Q h k n pc L (.double z :: .double x :: St) := by
  subst hp
  intro p e s m args below meth c T locs C X N eT
  exact (kt p e s m args below meth c T locs C X N eT).thru fun t q => XS.dsubS X.here C.1 rfl (hb C.2.1 hd) rfl hn hv q
theorem dmul {x z v : UInt64} (hd : decode bs pc = .ok (.dmul, 1)) (hn : Jvm.Free.Fl.NoNaN64 (FP.dmul x z)) (hv : FP.dmul x z = v) (hp : pc + 1 = pc') (kt : Go l Z R y bs ml ret n0 Q h k n pc' L (.double v :: St)) : Go l Z R y bs ml ret n0 Q h k n pc L (.double z :: .double x :: St) := by
  subst hp
  intro p e s m args below meth c T locs C X N eT
  exact (kt p e s m args below meth c T locs C X N eT).thru fun t q => XS.dmulS X.here C.1 rfl (hb C.2.1 hd) rfl hn hv q
theorem ddiv {x z v : UInt64} (hd : decode bs pc = .ok (.ddiv, 1)) (hn : Jvm.Free.Fl.NoNaN64 (FP.ddiv x z)) (hv : FP.ddiv x z = v) (hp : pc + 1 = pc') (kt : Go l Z R y bs ml ret n0 Q h k n pc' L (.double v :: St)) : Go l Z R y bs ml ret n0 Q h k n pc L (.double z :: .double x :: St) := by
  subst hp
  intro p e s m args below meth c T locs C X N eT
  exact (kt p e s m args below meth c T locs C X N eT).thru fun t q => XS.ddivS X.here C.1 rfl (hb C.2.1 hd) rfl hn hv q
theorem stD {a : Addr} {cl : Cell} {j : Int32} {x : UInt64} (hd : decode bs pc = .ok (.dastore, 1)) (A : Arr Z h a cl .double) (hj : ¬ (j < 0 ∨ cl.slots.size ≤ j.toNatClampNeg)) (g : n0 ≤ a) (hp : pc + 1 = pc') (kt : ∀ h', Wr h h' a j.toNatClampNeg (.double x) → Go l Z R y bs ml ret n0 Q h' k n pc' L St) : Go l Z R y bs ml ret n0 Q h k n pc L (.double x :: .int j :: .ref a :: St) := by
  subst hp
  intro p e s m args below meth c T locs C X N eT
  obtain ⟨T', h', X', e', W', st⟩ := Jvm.RoadKit.stD X C.1 C.2.2.2.2.2.2.2 eT A hj (g := mkF m pc L (.double x :: .int j :: .ref a :: St)) rfl rfl (hb C.2.1 hd)
  exact (kt h' W' p e s m args below meth c T' _ C X' (Fr.snoc X' N g) e').thru st
theorem daload {a : Addr} {cl : Cell} {j : Int32} {v : Value} (hd : decode bs pc = .ok (.daload, 1)) (A : Arr Z h a cl .double) (hj : ¬ (j < 0 ∨ cl.slots.size ≤ j.toNatClampNeg)) (hv : cl.slots[j.toNatClampNeg]? = some v) (hp : pc + 1 = pc') (kt : Go l Z R y bs ml ret n0 Q h k n pc' L (v :: St)) : Go l Z R y bs ml ret n0 Q h k n pc L (.int j :: .ref a :: St) := by
  subst hp
  intro p e s m args below meth c T locs C X N eT
  exact (kt p e s m args below meth c T locs C X N eT).thru fun t q => X.daload C.1 (by rw [eT]; exact A.1) (State.isArrayOf_alike C.2.2.2.2.2.2.2.alike A.2.1) A.2.2 hj hv (g := mkF m pc L (.int j :: .ref a :: St)) rfl rfl (hb C.2.1 hd) _ q
theorem dupX2 {x j : Int32} {a : Addr} (hd : decode bs pc = .ok (.dup_x2, 1)) (hp : pc + 1 = pc') (kt : Go l Z R y bs ml ret n0 Q h k n pc' L (.int x :: .int j :: .ref a :: .int x :: St)) : Go l Z R y bs ml ret n0 Q h k n pc L (.int x :: .int j :: .ref a :: St) := by
  subst hp
  intro p e s m args below meth c T locs C X N eT
  have hx := C.1
  have hd' := hb C.2.1 hd
  refine (kt p e s m args below meth c T locs C X N eT).thru fun t q => ?_
  show Steps p.tables e below (T.setTop { method := m, pc := pc, locals := L, stack := .int x :: .int j :: .ref a :: St, locked := none }) t
  jvm_step X.here [X.here.top, hx, hd', Value.category]
  exact q
theorem ldc2D {index : Nat} {v : UInt64} (hd : decode bs pc = .ok (.ldc2_w index, 3)) (w : (Cond.constantDouble y.cls index v).before a0 Z = true) (hp : pc + 3 = pc') (kt : Go l Z R y bs ml ret n0 Q h k n pc' L (.double v :: St)) : Go l Z R y bs ml ret n0 Q h k n pc L St := by
  subst hp
  intro p e s m args below meth c T locs C X N eT
  exact (kt p e s m args below meth c T locs C X N eT).thru (X.ldc2DoubleC C.1 C.2.2.2.1 (mvT C.2.2.2.2.2.2.2 w) (g := mkF m pc L St) rfl (hb C.2.1 hd))
end Dbl
end Jvm.OwnW
namespace Jvm.Pilot.@@N@@
open Jvm Jvm.ClassFile Sem Op Lib Jvm.Free Jvm.Stand Jvm.LawKit Jvm.RoadKit Bundle Jvm.OwnW Jvm.Pilot.@@N@@.Jvm.D
theorem pd_28II29I : parseMethodDescriptor "(II)I" = some ⟨[.int, .int], some .int⟩ := by decide +kernel
theorem pd_285bII295bI : parseMethodDescriptor "([II)[I" = some ⟨[(.array .int), .int], some (.array .int)⟩ := by decide +kernel
theorem pd_285bI5bDI29V : parseMethodDescriptor "([I[DI)V" = some ⟨[(.array .int), (.array .double), .int], none⟩ := by decide +kernel
theorem pd_28I29Z : parseMethodDescriptor "(I)Z" = some ⟨[.int], some .boolean⟩ := by decide +kernel
theorem pd_28III29D : parseMethodDescriptor "(III)D" = some ⟨[.int, .int, .int], some .double⟩ := by decide +kernel
theorem d4_0 : decode jdk_29_method_69_code 0 = .ok (.iload_n 0, 1) := by decide +kernel
theorem d4_1 : decode jdk_29_method_69_code 1 = .ok (.iload_n 1, 1) := by decide +kernel
theorem d4_2 : decode jdk_29_method_69_code 2 = .ok (.if_icmp .gt 7, 3) := by decide +kernel
theorem d4_5 : decode jdk_29_method_69_code 5 = .ok (.iload_n 0, 1) := by decide +kernel
theorem d4_6 : decode jdk_29_method_69_code 6 = .ok (.goto 4, 3) := by decide +kernel
theorem d4_9 : decode jdk_29_method_69_code 9 = .ok (.iload_n 1, 1) := by decide +kernel
theorem d4_10 : decode jdk_29_method_69_code 10 = .ok (.ireturn, 1) := by decide +kernel
def f4 (q0 : Int32) (q1 : Int32) : Int32 := (if q1 < q0 then q1 else q0)
abbrev GoB4 (l : Launch) (Z : State) (n0 : Nat) (Q : Option Value → Heap → Prop) := Go l Z ({ frames := 0, cells := 0, slots := 0, locals := 0 } : Room) (⟨"java/lang/Math", "min", "(II)I"⟩ : MethodName) jdk_29_method_69_code 2 (some .int) n0 Q
theorem ef4 (m : MethodId) (q0 : Int32) (q1 : Int32) : entryFrame m #[(.int q0), (.int q1)] 2 = mkF m 0 #[.val (.int q0), .val (.int q1)] [] := by first | (simp [entryFrame, mkF, argsToLocals, Value.category]; done) | rfl
set_option maxRecDepth 65536 in
set_option maxHeartbeats 40000000 in
theorem rm4 (l : Launch) (Z : State) (a0 : Array Value) (hw : ∀ d ∈ tables_1, d.before a0 Z = true) (q0 : Int32) (q1 : Int32) (h0 : Heap) (n0 : Nat) :
    Con l Z ({ frames := 0, cells := 0, slots := 0, locals := 0 } : Room) (⟨"java/lang/Math", "min", "(II)I"⟩ : MethodName) jdk_29_method_69_code 2 (some .int) n0 #[(.int q0), (.int q1)] h0 (OwnW.Ret (some (.int (f4 q0 q1))) h0) := by
  refine OwnW.Con.of (by first | decide +kernel | exact plainFor_of_name (by simp [plainName, overriddenIn])) (fun m => ef4 m q0 q1) ?_
  show GoB4 l Z n0 (OwnW.Ret (some (.int (f4 q0 q1))) h0) h0 0 0 0 #[.val (.int q0), .val (.int q1)] []
  refine OwnW.iloadN (pc' := 1) d4_0 rfl rfl ?_
  refine OwnW.iloadN (pc' := 2) d4_1 rfl rfl ?_
  by_cases hc2 : q1 < q0
  ·
    refine OwnW.icmpY (pc' := 9) d4_2 (tlt hc2).2.2.1 (by decide) (by decide) ?_
    refine OwnW.iloadN (pc' := 10) d4_9 rfl rfl ?_
    exact OwnW.retI d4_10 rfl (by decide) (by decide) (⟨by first | (simp only [f4, if_pos hc2]; done) | (simp only [f4, if_pos hc2]; rfl), rfl⟩)
  ·
    refine OwnW.icmpN (pc' := 5) d4_2 (flt hc2).2.2.1 rfl ?_
    refine OwnW.iloadN (pc' := 6) d4_5 rfl rfl ?_
    refine OwnW.goto (pc' := 10) d4_6 (by decide) (by decide) ?_
    exact OwnW.retI d4_10 rfl (by decide) (by decide) (⟨by first | (simp only [f4, if_neg hc2]; done) | (simp only [f4, if_neg hc2]; rfl), rfl⟩)
theorem d6_0 : decode method_2_code 0 = .ok (.iload_n 0, 1) := by decide +kernel
theorem d6_1 : decode method_2_code 1 = .ok (.iconst 2, 1) := by decide +kernel
theorem d6_2 : decode method_2_code 2 = .ok (.iload_n 1, 1) := by decide +kernel
theorem d6_3 : decode method_2_code 3 = .ok (.imul, 1) := by decide +kernel
theorem d6_4 : decode method_2_code 4 = .ok (.iushr, 1) := by decide +kernel
theorem d6_5 : decode method_2_code 5 = .ok (.iconst 3, 1) := by decide +kernel
theorem d6_6 : decode method_2_code 6 = .ok (.iand, 1) := by decide +kernel
theorem d6_7 : decode method_2_code 7 = .ok (.iconst 3, 1) := by decide +kernel
theorem d6_8 : decode method_2_code 8 = .ok (.irem, 1) := by decide +kernel
theorem d6_9 : decode method_2_code 9 = .ok (.ireturn, 1) := by decide +kernel
def f6 (q0 : Int32) (q1 : Int32) : Int32 := ((((q0.toUInt32 >>> (((2 : Int32) * q1) &&& 31).toUInt32).toInt32) &&& (3 : Int32)) % (3 : Int32))
abbrev GoB6 (l : Launch) (Z : State) (n0 : Nat) (Q : Option Value → Heap → Prop) := Go l Z ({ frames := 0, cells := 0, slots := 0, locals := 0 } : Room) (⟨"com/example/sieve_for_links/sieveforlinks/VirtualLinksFitsPinLaw", "pick", "(II)I"⟩ : MethodName) method_2_code 2 (some .int) n0 Q
theorem ef6 (m : MethodId) (q0 : Int32) (q1 : Int32) : entryFrame m #[(.int q0), (.int q1)] 2 = mkF m 0 #[.val (.int q0), .val (.int q1)] [] := by first | (simp [entryFrame, mkF, argsToLocals, Value.category]; done) | rfl
set_option maxRecDepth 65536 in
set_option maxHeartbeats 40000000 in
theorem rm6 (l : Launch) (Z : State) (a0 : Array Value) (hw : ∀ d ∈ tables_1, d.before a0 Z = true) (q0 : Int32) (q1 : Int32) (h0 : Heap) (n0 : Nat) :
    Con l Z ({ frames := 0, cells := 0, slots := 0, locals := 0 } : Room) (⟨"com/example/sieve_for_links/sieveforlinks/VirtualLinksFitsPinLaw", "pick", "(II)I"⟩ : MethodName) method_2_code 2 (some .int) n0 #[(.int q0), (.int q1)] h0 (OwnW.Ret (some (.int (f6 q0 q1))) h0) := by
  refine OwnW.Con.of (by first | decide +kernel | exact plainFor_of_name (by simp [plainName, overriddenIn])) (fun m => ef6 m q0 q1) ?_
  show GoB6 l Z n0 (OwnW.Ret (some (.int (f6 q0 q1))) h0) h0 0 0 0 #[.val (.int q0), .val (.int q1)] []
  refine OwnW.iloadN (pc' := 1) d6_0 rfl rfl ?_
  refine OwnW.iconst (pc' := 2) (v := (2 : Int32)) d6_1 rfl rfl ?_
  refine OwnW.iloadN (pc' := 3) d6_2 rfl rfl ?_
  refine OwnW.imul (pc' := 4) d6_3 rfl ?_
  refine OwnW.iushr (pc' := 5) d6_4 rfl ?_
  refine OwnW.iconst (pc' := 6) (v := (3 : Int32)) d6_5 rfl rfl ?_
  refine OwnW.iand (pc' := 7) d6_6 rfl ?_
  refine OwnW.iconst (pc' := 8) (v := (3 : Int32)) d6_7 rfl rfl ?_
  refine OwnW.irem (pc' := 9) d6_8 (by decide) rfl ?_
  exact OwnW.retI d6_9 rfl (by decide) (by decide) (⟨by first | (simp only [f6]; done) | (simp only [f6]; rfl), rfl⟩)
theorem d7_0 : decode method_3_code 0 = .ok (.iload_n 0, 1) := by decide +kernel
theorem d7_1 : decode method_3_code 1 = .ok (.ifCond .ne 7, 3) := by decide +kernel
theorem d7_4 : decode method_3_code 4 = .ok (.dconst 0, 1) := by decide +kernel
theorem d7_5 : decode method_3_code 5 = .ok (.goto 9, 3) := by decide +kernel
theorem d7_8 : decode method_3_code 8 = .ok (.iload_n 1, 1) := by decide +kernel
theorem d7_9 : decode method_3_code 9 = .ok (.iload_n 2, 1) := by decide +kernel
theorem d7_10 : decode method_3_code 10 = .ok (.iushr, 1) := by decide +kernel
theorem d7_11 : decode method_3_code 11 = .ok (.iconst 1, 1) := by decide +kernel
theorem d7_12 : decode method_3_code 12 = .ok (.iand, 1) := by decide +kernel
theorem d7_13 : decode method_3_code 13 = .ok (.i2d, 1) := by decide +kernel
theorem d7_14 : decode method_3_code 14 = .ok (.dreturn, 1) := by decide +kernel
def f7 (q0 : Int32) (q1 : Int32) (q2 : Int32) : UInt64 := (if q0 = (0 : Int32) then (0 : UInt64) else (FP.i2d (((q1.toUInt32 >>> (q2 &&& 31).toUInt32).toInt32) &&& (1 : Int32))))
abbrev GoB7 (l : Launch) (Z : State) (n0 : Nat) (Q : Option Value → Heap → Prop) := Go l Z ({ frames := 0, cells := 0, slots := 0, locals := 0 } : Room) (⟨"com/example/sieve_for_links/sieveforlinks/VirtualLinksFitsPinLaw", "shareOf", "(III)D"⟩ : MethodName) method_3_code 3 (some .double) n0 Q
theorem ef7 (m : MethodId) (q0 : Int32) (q1 : Int32) (q2 : Int32) : entryFrame m #[(.int q0), (.int q1), (.int q2)] 3 = mkF m 0 #[.val (.int q0), .val (.int q1), .val (.int q2)] [] := by first | (simp [entryFrame, mkF, argsToLocals, Value.category]; done) | rfl
set_option maxRecDepth 65536 in
set_option maxHeartbeats 40000000 in
theorem rm7 (l : Launch) (Z : State) (a0 : Array Value) (hw : ∀ d ∈ tables_1, d.before a0 Z = true) (q0 : Int32) (q1 : Int32) (q2 : Int32) (h0 : Heap) (n0 : Nat) :
    Con l Z ({ frames := 0, cells := 0, slots := 0, locals := 0 } : Room) (⟨"com/example/sieve_for_links/sieveforlinks/VirtualLinksFitsPinLaw", "shareOf", "(III)D"⟩ : MethodName) method_3_code 3 (some .double) n0 #[(.int q0), (.int q1), (.int q2)] h0 (OwnW.Ret (some (.double (f7 q0 q1 q2))) h0) := by
  refine OwnW.Con.of (by first | decide +kernel | exact plainFor_of_name (by simp [plainName, overriddenIn])) (fun m => ef7 m q0 q1 q2) ?_
  show GoB7 l Z n0 (OwnW.Ret (some (.double (f7 q0 q1 q2))) h0) h0 0 0 0 #[.val (.int q0), .val (.int q1), .val (.int q2)] []
  refine OwnW.iloadN (pc' := 1) d7_0 rfl rfl ?_
  by_cases hc1 : q0 = (0 : Int32)
  ·
    refine OwnW.ifcN (pc' := 4) d7_1 ((if0 _ _).trans (teq hc1).2) rfl ?_
    refine OwnW.dconst0 (pc' := 5) (v := (0 : UInt64)) d7_4 (by decide +kernel) rfl ?_
    refine OwnW.goto (pc' := 14) d7_5 (by decide) (by decide) ?_
    exact OwnW.retD d7_14 rfl (by decide) (by decide) (⟨by first | (simp only [f7, if_pos hc1]; done) | (simp only [f7, if_pos hc1]; rfl), rfl⟩)
  ·
    refine OwnW.ifcY (pc' := 8) d7_1 ((if0 _ _).trans (feq hc1).2) (by decide) (by decide) ?_
    refine OwnW.iloadN (pc' := 9) d7_8 rfl rfl ?_
    refine OwnW.iloadN (pc' := 10) d7_9 rfl rfl ?_
    refine OwnW.iushr (pc' := 11) d7_10 rfl ?_
    refine OwnW.iconst (pc' := 12) (v := (1 : Int32)) d7_11 rfl rfl ?_
    refine OwnW.iand (pc' := 13) d7_12 rfl ?_
    refine OwnW.i2d (pc' := 14) d7_13 rfl rfl ?_
    exact OwnW.retD d7_14 rfl (by decide) (by decide) (⟨by first | (simp only [f7, if_neg hc1]; done) | (simp only [f7, if_neg hc1]; rfl), rfl⟩)

abbrev own_G (g : Int32) : Prop := g = (0 : Int32) ∨ g = (1 : Int32) ∨ g = (2 : Int32)
def own_S (g : Int32) (s : UInt64) : Prop := ¬ (cmpValue (FP.dcmp s (0 : UInt64)) .l) < (0 : Int32) ∧ ¬ (0 : Int32) < (cmpValue (FP.dcmp s (4607182418800017408 : UInt64)) .g) ∧ (g = (0 : Int32) → (cmpValue (FP.dcmp s (0 : UInt64)) .l) = (0 : Int32))
theorem own_bd {g : Int32} (h : own_G g) : ¬ g < 0 ∧ g < (3 : Int32) := by rcases h with rfl | rfl | rfl <;> decide
theorem own_gn {g : Int32} (h : own_G g) : ¬ g < (0 : Int32) ∧ ¬ (2 : Int32) < g := by rcases h with rfl | rfl | rfl <;> decide
theorem own_gd (L : List Int32) (i : Nat) : (L.map Value.int).getD i (.int (0 : Int32)) = .int (L.getD i 0) := by
  simp only [List.getD_eq_getElem?_getD, List.getElem?_map]
  cases L[i]? <;> rfl
theorem own_ln {L : List Int32} {n : Nat} {j z : Int32} (l : L.length = n) (b : ¬ j < 0 ∧ j < z) (q : z.toNatClampNeg = n := by decide) : j.toNatClampNeg < (L.map Value.int).length := by
  rw [List.length_map, l, ← q]
  obtain ⟨h0, h1⟩ := b
  rw [Int32.lt_iff_toInt_lt] at h0 h1
  have e0 : (0 : Int32).toInt = 0 := rfl
  simp only [Int32.toNatClampNeg]
  omega
theorem own_us (SL : List Int32) : ([SL.getD 0 0, SL.getD 1 0, SL.getD 2 0].map Value.int) = (List.range (3 : Int32).toNatClampNeg).map fun i => (SL.map Value.int).getD ((0 : Int32).toNatClampNeg + i) (.int (0 : Int32)) := by
  have e : (3 : Int32).toNatClampNeg = 3 := by decide
  have z : (0 : Int32).toNatClampNeg = 0 := by decide
  simp only [e, z, Nat.zero_add, own_gd]
  rfl
def Wk (Z : State) (h : Heap) (a : Addr) (n : Int32) : Prop := ∃ cl : Cell, Arr Z h a cl .int ∧ cl.slots.size = n.toNatClampNeg
theorem Wk.ext {Z : State} {h h' : Heap} {t : Addr} {n : Int32} (F : Wk Z h t n) (E : Ext h h') : Wk Z h' t n := by obtain ⟨cl, A, r⟩ := F; exact ⟨cl, A.ext E, r⟩
theorem Wk.other {Z : State} {h h' : Heap} {t a : Addr} {n : Int32} {sl : Nat} {v : Value} (F : Wk Z h t n) (W : Wr h h' a sl v) (q : t ≠ a) : Wk Z h' t n := by obtain ⟨cl, A, r⟩ := F; exact ⟨cl, A.other W q, r⟩
theorem Wk.keep {Z : State} {h h' : Heap} {t : Addr} {n : Int32} {ws : List Addr} (F : Wk Z h t n) (K : Keep h h' ws) (q : t ∉ ws) : Wk Z h' t n := by obtain ⟨cl, A, r⟩ := F; exact ⟨cl, ⟨K.2.1 t cl A.1 q, A.2⟩, r⟩
theorem Wk.lt {Z : State} {h : Heap} {t : Addr} {n : Int32} (F : Wk Z h t n) : t < h.size := by obtain ⟨cl, A, -⟩ := F; exact A.lt
theorem Wk.same {Z : State} {h h' : Heap} {t : Addr} {n : Int32} {sl : Nat} {v : Value} (F : Wk Z h t n) (W : Wr h h' t sl v) : Wk Z h' t n := by obtain ⟨cl, A, r⟩ := F; exact ⟨_, A.same W, by simpa [Cell.setSlot] using r⟩
theorem own_pick {x i : Int32} : own_G (f6 x i) := by
  unfold f6
  generalize (x.toUInt32 >>> (((2 : Int32) * i) &&& 31).toUInt32).toInt32 = z
  have e := c_mask z 3 2 (by decide) (by decide)
  have r := (c_irem (z &&& 3) 3 3 (by decide)).1 (by omega)
  have b : ((z &&& 3) % 3).toInt = 0 ∨ ((z &&& 3) % 3).toInt = 1 ∨ ((z &&& 3) % 3).toInt = 2 := by omega
  simpa [own_G, ← Int32.toInt_inj] using b
theorem own_pk {g x i : Int32} (h : g = (f6 x i)) : own_G g := h ▸ own_pick
theorem own_sh {g x i : Int32} {s : UInt64} (h : s = (f7 g x i)) : own_S g s := by
  subst h
  unfold f7
  have k0 : own_S g (0 : UInt64) := ⟨by decide +kernel, by decide +kernel, fun _ => by decide +kernel⟩
  split
  · exact k0
  · rename_i hg
    generalize (x.toUInt32 >>> (i &&& 31).toUInt32).toInt32 = z
    have e := c_mask z 1 1 (by decide) (by decide)
    have b : (z &&& 1) = 0 ∨ (z &&& 1) = 1 := by
      have b : (z &&& 1).toInt = 0 ∨ (z &&& 1).toInt = 1 := by omega
      simpa [← Int32.toInt_inj] using b
    rcases b with b | b <;> rw [b]
    · rw [show FP.i2d (0 : Int32) = 0 by decide +kernel]; exact k0
    · rw [show FP.i2d (1 : Int32) = (4607182418800017408 : UInt64) by decide +kernel]
      exact ⟨by decide +kernel, by decide +kernel, fun q => absurd q hg⟩
theorem own_len {x n : Int32} (h : n = (x &&& (3 : Int32))) : n = (0 : Int32) ∨ n = (1 : Int32) ∨ n = (2 : Int32) ∨ n = (3 : Int32) := by
  have e := c_mask x 3 2 (by decide) (by decide)
  rw [← h] at e
  have b : n.toInt = 0 ∨ n.toInt = 1 ∨ n.toInt = 2 ∨ n.toInt = 3 := by omega
  simpa [← Int32.toInt_inj] using b

theorem d3_0 : decode jdk_65_method_123_code 0 = .ok (.iload_n 1, 1) := by decide +kernel
theorem d3_1 : decode jdk_65_method_123_code 1 = .ok (.aload_n 0, 1) := by decide +kernel
theorem d3_2 : decode jdk_65_method_123_code 2 = .ok (.arraylength, 1) := by decide +kernel
theorem d3_3 : decode jdk_65_method_123_code 3 = .ok (.if_icmp .ne 11, 3) := by decide +kernel
theorem d3_14 : decode jdk_65_method_123_code 14 = .ok (.iload_n 1, 1) := by decide +kernel
theorem d3_15 : decode jdk_65_method_123_code 15 = .ok (.newarray .int, 2) := by decide +kernel
theorem d3_17 : decode jdk_65_method_123_code 17 = .ok (.astore_n 2, 1) := by decide +kernel
theorem d3_18 : decode jdk_65_method_123_code 18 = .ok (.aload_n 0, 1) := by decide +kernel
theorem d3_19 : decode jdk_65_method_123_code 19 = .ok (.iconst 0, 1) := by decide +kernel
theorem d3_20 : decode jdk_65_method_123_code 20 = .ok (.aload_n 2, 1) := by decide +kernel
theorem d3_21 : decode jdk_65_method_123_code 21 = .ok (.iconst 0, 1) := by decide +kernel
theorem d3_22 : decode jdk_65_method_123_code 22 = .ok (.aload_n 0, 1) := by decide +kernel
theorem d3_23 : decode jdk_65_method_123_code 23 = .ok (.arraylength, 1) := by decide +kernel
theorem d3_24 : decode jdk_65_method_123_code 24 = .ok (.iload_n 1, 1) := by decide +kernel
theorem d3_25 : decode jdk_65_method_123_code 25 = .ok (.invokestatic 304, 3) := by decide +kernel
theorem d3_28 : decode jdk_65_method_123_code 28 = .ok (.invokestatic 150, 3) := by decide +kernel
theorem d3_31 : decode jdk_65_method_123_code 31 = .ok (.aload_n 2, 1) := by decide +kernel
theorem d3_32 : decode jdk_65_method_123_code 32 = .ok (.areturn, 1) := by decide +kernel
def Q3 (Z : State) (q0 : Addr) (qk : ClassId) (SL : List Int32) (h0 : Heap) (v : Option Value) (h : Heap) : Prop := ∃ (x0 : Addr) (k0 : ClassId), v = some (.ref x0) ∧ Keep h0 h [] ∧ h0.size ≤ x0 ∧ Arv Z h x0 k0 .int (3 : Int32) [(.int (SL.getD 0 0)), (.int (SL.getD 1 0)), (.int (SL.getD 2 0))] (.int (0 : Int32))
abbrev GoB3 (l : Launch) (Z : State) (n0 : Nat) (Q : Option Value → Heap → Prop) := Go l Z ({ frames := 1, cells := 1, slots := 3, locals := 18 } : Room) (⟨"java/util/Arrays", "copyOf", "([II)[I"⟩ : MethodName) jdk_65_method_123_code 3 (some (.array .int)) n0 Q
theorem ef3 (m : MethodId) (q0 : Addr) : entryFrame m #[(.ref q0), (.int (3 : Int32))] 3 = mkF m 0 #[.val (.ref q0), .val (.int (3 : Int32)), .unset] [] := by first | (simp [entryFrame, mkF, argsToLocals, Value.category]; done) | rfl
set_option maxRecDepth 65536 in
set_option maxHeartbeats 40000000 in
theorem rm3 (l : Launch) (Z : State) (a0 : Array Value) (hw : ∀ d ∈ tables_1, d.before a0 Z = true) (q0 : Addr) (qk : ClassId) (SL : List Int32) (h0 : Heap) (n0 : Nat) (Z0 : n0 ≤ h0.size) (V_q : Arv Z h0 q0 qk .int (4 : Int32) (SL.map Value.int) (.int (0 : Int32))) :
    Con l Z ({ frames := 1, cells := 1, slots := 3, locals := 18 } : Room) (⟨"java/util/Arrays", "copyOf", "([II)[I"⟩ : MethodName) jdk_65_method_123_code 3 (some (.array .int)) n0 #[(.ref q0), (.int (3 : Int32))] h0 (Q3 Z q0 qk SL h0) := by
  refine OwnW.Con.of (by first | decide +kernel | exact plainFor_of_name (by simp [plainName, overriddenIn])) (fun m => ef3 m q0) ?_
  show GoB3 l Z n0 (Q3 Z q0 qk SL h0) h0 0 0 0 #[.val (.ref q0), .val (.int (3 : Int32)), .unset] []
  refine OwnW.iloadN (pc' := 1) d3_0 rfl rfl ?_
  refine OwnW.aloadN (pc' := 2) d3_1 rfl (rfl) rfl ?_
  obtain ⟨cla, Ara, qka, Sza, Mna, Hva, Gfa⟩ := id V_q
  refine OwnW.alen (pc' := 3) (x := (4 : Int32)) d3_2 Ara (len_of Sza Mna) rfl ?_
  show GoB3 l Z n0 (Q3 Z q0 qk SL h0) h0 0 0 3 #[.val (.ref q0), .val (.int (3 : Int32)), .unset] [(.int (4 : Int32)), (.int (3 : Int32))]
  refine OwnW.icmpY (pc' := 14) d3_3 (feq (by decide)).2 (by decide) (by decide) ?_
  refine OwnW.iloadN (pc' := 15) d3_14 rfl rfl ?_
  refine OwnW.newP (a0 := a0) (pc' := 17) (cap := 3) (k' := 1) (n' := 3) d3_15 (hw _ (List.mem_of_getElem? (i := 0) rfl)) (by decide) (by decide) (by decide) rfl rfl (by decide) (by decide) rfl ?_
  intro h1 kc1 ad1 g1 E1 A1
  have lt_q0_ad1 : @LT.lt Nat _ q0 ad1 := Nat.lt_of_lt_of_le (V_q).lt (Nat.le_of_eq g1.symm)
  have ge_ad1 : n0 ≤ ad1 := Nat.le_trans Z0 (Nat.le_of_eq g1.symm)
  have sz_ad1 : n0 ≤ h1.size := Nat.le_trans Z0 E1.1
  have V1 : Arv Z h1 ad1 kc1 .int (3 : Int32) [(.int (0 : Int32)), (.int (0 : Int32)), (.int (0 : Int32))] (.int (0 : Int32)) := (Arv.new A1 (by decide)).pad (pad_rep [] _ 3)
  refine OwnW.astoreN (pc' := 18) (L' := #[.val (.ref q0), .val (.int (3 : Int32)), .val (.ref ad1)]) d3_17 (rfl) rfl rfl ?_
  refine OwnW.aloadN (pc' := 19) d3_18 rfl (rfl) rfl ?_
  refine OwnW.iconst (pc' := 20) (v := (0 : Int32)) d3_19 rfl rfl ?_
  refine OwnW.aloadN (pc' := 21) d3_20 rfl (rfl) rfl ?_
  refine OwnW.iconst (pc' := 22) (v := (0 : Int32)) d3_21 rfl rfl ?_
  refine OwnW.aloadN (pc' := 23) d3_22 rfl (rfl) rfl ?_
  have F2 := (V_q.ext E1)
  obtain ⟨clb, Arb, qkb, Szb, Mnb, Hvb, Gfb⟩ := id F2
  refine OwnW.alen (pc' := 24) (x := (4 : Int32)) d3_23 Arb (len_of Szb Mnb) rfl ?_
  show GoB3 l Z n0 (Q3 Z q0 qk SL h0) h1 1 3 24 #[.val (.ref q0), .val (.int (3 : Int32)), .val (.ref ad1)] [(.int (4 : Int32)), (.int (0 : Int32)), (.ref ad1), (.int (0 : Int32)), (.ref q0)]
  refine OwnW.iloadN (pc' := 25) d3_24 rfl rfl ?_
  refine OwnW.callS0 (a0 := a0) (pc' := 28) (W := 4) (k' := 1) (n' := 3) (argsL := [(.int (4 : Int32)), (.int (3 : Int32))]) (rest := [(.int (0 : Int32)), (.ref ad1), (.int (0 : Int32)), (.ref q0)]) (St' := [(.int (f4 (4 : Int32) (3 : Int32))), (.int (0 : Int32)), (.ref ad1), (.int (0 : Int32)), (.ref q0)]) d3_25 (hw _ (List.mem_of_getElem? (i := 15) rfl)) (hw _ (List.mem_of_getElem? (i := 16) rfl)) (hw _ (List.mem_of_getElem? (i := 17) rfl)) (hw _ (List.mem_of_getElem? (i := 18) rfl)) (by decide) (rm4 l Z a0 hw (4 : Int32) (3 : Int32) h1 n0) (by decide) (by decide) rfl rfl (by decide) (by decide) rfl pd_28II29I rfl rfl rfl (Nat.le_of_ble_eq_true rfl) rfl rfl ?_
  rw [show (f4 (4 : Int32) (3 : Int32)) = (3 : Int32) from (by decide)]
  show GoB3 l Z n0 (Q3 Z q0 qk SL h0) h1 1 3 28 #[.val (.ref q0), .val (.int (3 : Int32)), .val (.ref ad1)] [(.int (3 : Int32)), (.int (0 : Int32)), (.ref ad1), (.int (0 : Int32)), (.ref q0)]
  refine OwnW.cpA (a0 := a0) (pc' := 31) (W := 0) (us := ([SL.getD 0 0, SL.getD 1 0, SL.getD 2 0].map Value.int)) d3_28 (hw _ (List.mem_of_getElem? (i := 19) rfl)) (hw _ (List.mem_of_getElem? (i := 22) rfl)) (hw _ (List.mem_of_getElem? (i := 20) rfl)) (hw _ (List.mem_of_getElem? (i := 21) rfl)) F2 V1 (Or.inl ⟨rfl, rfl⟩) (by decide) (by decide) (by decide) (by decide) (by decide) (own_us SL) (by decide) ge_ad1 rfl (by decide) (Nat.le_of_ble_eq_true rfl) (by decide) rfl ?_
  intro hk Kk Vk
  have sz4 : n0 ≤ hk.size := Nat.le_trans sz_ad1 Kk.1
  have Vl : Arv Z hk ad1 kc1 .int (3 : Int32) [(.int (SL.getD 0 0)), (.int (SL.getD 1 0)), (.int (SL.getD 2 0))] (.int (0 : Int32)) := Vk
  show GoB3 l Z n0 (Q3 Z q0 qk SL h0) hk 1 3 31 #[.val (.ref q0), .val (.int (3 : Int32)), .val (.ref ad1)] []
  refine OwnW.aloadN (pc' := 32) d3_31 rfl (rfl) rfl ?_
  exact OwnW.retA d3_32 rfl rfl rfl (by decide) (by decide) (⟨ad1, kc1, rfl, (((Keep.refl h0 []).ext E1).trans Kk (allS (Or.inr (Nat.le_trans (Nat.le_refl _) (Nat.le_of_eq g1.symm))) all0)), (Nat.le_trans (Nat.le_refl _) (Nat.le_of_eq g1.symm)), Vl⟩)
theorem own_tt0 {C7 : List Int32} {C9 : List Int32} {C13 : List Int32} {C19 : List Int32} {tt : Int32} (hC7 : C7 = [(0 : Int32), (0 : Int32), (0 : Int32), (0 : Int32)]) (hC9 : C9 = [(0 : Int32), (0 : Int32), (0 : Int32)]) (hC13 : C13 = (C7.set 2 ((C7.getD 1 0) + (C9.getD 1 0)))) (hC19 : C19 = (C13.set 3 ((C13.getD 2 0) + (C9.getD 2 0)))) (htt : tt = (C19.getD 3 0)) : ¬ tt < 0 ∧ tt.toNatClampNeg ≤ 0 := by
  subst htt hC19 hC13 hC9 hC7
  decide
theorem own_tt1 {g0 : Int32} {C15 : List Int32} {C18 : List Int32} {C23 : List Int32} {C28 : List Int32} {C34 : List Int32} {tt : Int32} (hg0 : own_G g0) (hC15 : C15 = [(0 : Int32), (0 : Int32), (0 : Int32)]) (hC18 : C18 = (C15.set g0.toNatClampNeg ((C15.getD g0.toNatClampNeg 0) + (1 : Int32)))) (hC23 : C23 = [(0 : Int32), (0 : Int32), (0 : Int32), (0 : Int32)]) (hC28 : C28 = (C23.set 2 ((C23.getD 1 0) + (C18.getD 1 0)))) (hC34 : C34 = (C28.set 3 ((C28.getD 2 0) + (C18.getD 2 0)))) (htt : tt = (C34.getD 3 0)) : ¬ tt < 0 ∧ tt.toNatClampNeg ≤ 1 := by
  subst htt hC34 hC28 hC23 hC18 hC15
  rcases hg0 with rfl | rfl | rfl <;> decide
theorem own_mb1_0 {g0 : Int32} {C15 : List Int32} {C18 : List Int32} {C23 : List Int32} {C28 : List Int32} {C34 : List Int32} {C44 : List Int32} {C47 : List Int32} {tt : Int32} (hg0 : own_G g0) (hC15 : C15 = [(0 : Int32), (0 : Int32), (0 : Int32)]) (hC18 : C18 = (C15.set g0.toNatClampNeg ((C15.getD g0.toNatClampNeg 0) + (1 : Int32)))) (hC23 : C23 = [(0 : Int32), (0 : Int32), (0 : Int32), (0 : Int32)]) (hC28 : C28 = (C23.set 2 ((C23.getD 1 0) + (C18.getD 1 0)))) (hC34 : C34 = (C28.set 3 ((C28.getD 2 0) + (C18.getD 2 0)))) (hC44 : C44 = [(C34.getD 0 0), (C34.getD 1 0), (C34.getD 2 0)]) (hC47 : C47 = (C44.set g0.toNatClampNeg ((C44.getD g0.toNatClampNeg 0) + (1 : Int32)))) (htt : tt = (C34.getD 3 0)) (y0 : (0 : Int32) < g0) : ¬ (C44.getD g0.toNatClampNeg 0) < 0 ∧ (C44.getD g0.toNatClampNeg 0) < tt := by
  subst htt hC47 hC44 hC34 hC28 hC23 hC18 hC15
  rcases hg0 with rfl | rfl | rfl <;> revert y0 <;> decide
theorem own_tt2 {g0 : Int32} {g1 : Int32} {C15 : List Int32} {C18 : List Int32} {C33 : List Int32} {C38 : List Int32} {C43 : List Int32} {C49 : List Int32} {tt : Int32} (hg0 : own_G g0) (hg1 : own_G g1) (hC15 : C15 = [(0 : Int32), (0 : Int32), (0 : Int32)]) (hC18 : C18 = (C15.set g0.toNatClampNeg ((C15.getD g0.toNatClampNeg 0) + (1 : Int32)))) (hC33 : C33 = (C18.set g1.toNatClampNeg ((C18.getD g1.toNatClampNeg 0) + (1 : Int32)))) (hC38 : C38 = [(0 : Int32), (0 : Int32), (0 : Int32), (0 : Int32)]) (hC43 : C43 = (C38.set 2 ((C38.getD 1 0) + (C33.getD 1 0)))) (hC49 : C49 = (C43.set 3 ((C43.getD 2 0) + (C33.getD 2 0)))) (htt : tt = (C49.getD 3 0)) : ¬ tt < 0 ∧ tt.toNatClampNeg ≤ 2 := by
  subst htt hC49 hC43 hC38 hC33 hC18 hC15
  rcases hg0 with rfl | rfl | rfl <;> rcases hg1 with rfl | rfl | rfl <;> decide
theorem own_mb2_0 {g0 : Int32} {g1 : Int32} {C15 : List Int32} {C18 : List Int32} {C33 : List Int32} {C38 : List Int32} {C43 : List Int32} {C49 : List Int32} {C59 : List Int32} {C62 : List Int32} {tt : Int32} (hg0 : own_G g0) (hg1 : own_G g1) (hC15 : C15 = [(0 : Int32), (0 : Int32), (0 : Int32)]) (hC18 : C18 = (C15.set g0.toNatClampNeg ((C15.getD g0.toNatClampNeg 0) + (1 : Int32)))) (hC33 : C33 = (C18.set g1.toNatClampNeg ((C18.getD g1.toNatClampNeg 0) + (1 : Int32)))) (hC38 : C38 = [(0 : Int32), (0 : Int32), (0 : Int32), (0 : Int32)]) (hC43 : C43 = (C38.set 2 ((C38.getD 1 0) + (C33.getD 1 0)))) (hC49 : C49 = (C43.set 3 ((C43.getD 2 0) + (C33.getD 2 0)))) (hC59 : C59 = [(C49.getD 0 0), (C49.getD 1 0), (C49.getD 2 0)]) (hC62 : C62 = (C59.set g0.toNatClampNeg ((C59.getD g0.toNatClampNeg 0) + (1 : Int32)))) (htt : tt = (C49.getD 3 0)) (y0 : (0 : Int32) < g0) : ¬ (C59.getD g0.toNatClampNeg 0) < 0 ∧ (C59.getD g0.toNatClampNeg 0) < tt := by
  subst htt hC62 hC59 hC49 hC43 hC38 hC33 hC18 hC15
  rcases hg0 with rfl | rfl | rfl <;> rcases hg1 with rfl | rfl | rfl <;> revert y0 <;> decide
theorem own_mb2_1 {g0 : Int32} {g1 : Int32} {C15 : List Int32} {C18 : List Int32} {C33 : List Int32} {C38 : List Int32} {C43 : List Int32} {C49 : List Int32} {C59 : List Int32} {C62 : List Int32} {C74 : List Int32} {tt : Int32} (hg0 : own_G g0) (hg1 : own_G g1) (hC15 : C15 = [(0 : Int32), (0 : Int32), (0 : Int32)]) (hC18 : C18 = (C15.set g0.toNatClampNeg ((C15.getD g0.toNatClampNeg 0) + (1 : Int32)))) (hC33 : C33 = (C18.set g1.toNatClampNeg ((C18.getD g1.toNatClampNeg 0) + (1 : Int32)))) (hC38 : C38 = [(0 : Int32), (0 : Int32), (0 : Int32), (0 : Int32)]) (hC43 : C43 = (C38.set 2 ((C38.getD 1 0) + (C33.getD 1 0)))) (hC49 : C49 = (C43.set 3 ((C43.getD 2 0) + (C33.getD 2 0)))) (hC59 : C59 = [(C49.getD 0 0), (C49.getD 1 0), (C49.getD 2 0)]) (hC62 : C62 = (C59.set g0.toNatClampNeg ((C59.getD g0.toNatClampNeg 0) + (1 : Int32)))) (hC74 : C74 = (C62.set g1.toNatClampNeg ((C62.getD g1.toNatClampNeg 0) + (1 : Int32)))) (htt : tt = (C49.getD 3 0)) (y0 : (0 : Int32) < g0) (y1 : (0 : Int32) < g1) : ¬ (C62.getD g1.toNatClampNeg 0) < 0 ∧ (C62.getD g1.toNatClampNeg 0) < tt := by
  subst htt hC74 hC62 hC59 hC49 hC43 hC38 hC33 hC18 hC15
  rcases hg0 with rfl | rfl | rfl <;> rcases hg1 with rfl | rfl | rfl <;> revert y0 y1 <;> decide
theorem own_mb2_2 {g0 : Int32} {g1 : Int32} {C15 : List Int32} {C18 : List Int32} {C33 : List Int32} {C38 : List Int32} {C43 : List Int32} {C49 : List Int32} {C125 : List Int32} {C128 : List Int32} {tt : Int32} (hg0 : own_G g0) (hg1 : own_G g1) (hC15 : C15 = [(0 : Int32), (0 : Int32), (0 : Int32)]) (hC18 : C18 = (C15.set g0.toNatClampNeg ((C15.getD g0.toNatClampNeg 0) + (1 : Int32)))) (hC33 : C33 = (C18.set g1.toNatClampNeg ((C18.getD g1.toNatClampNeg 0) + (1 : Int32)))) (hC38 : C38 = [(0 : Int32), (0 : Int32), (0 : Int32), (0 : Int32)]) (hC43 : C43 = (C38.set 2 ((C38.getD 1 0) + (C33.getD 1 0)))) (hC49 : C49 = (C43.set 3 ((C43.getD 2 0) + (C33.getD 2 0)))) (hC125 : C125 = [(C49.getD 0 0), (C49.getD 1 0), (C49.getD 2 0)]) (hC128 : C128 = (C125.set g1.toNatClampNeg ((C125.getD g1.toNatClampNeg 0) + (1 : Int32)))) (htt : tt = (C49.getD 3 0)) (y0 : ¬ ((0 : Int32) < g0)) (y1 : (0 : Int32) < g1) : ¬ (C125.getD g1.toNatClampNeg 0) < 0 ∧ (C125.getD g1.toNatClampNeg 0) < tt := by
  subst htt hC128 hC125 hC49 hC43 hC38 hC33 hC18 hC15
  rcases hg0 with rfl | rfl | rfl <;> rcases hg1 with rfl | rfl | rfl <;> revert y0 y1 <;> decide
theorem own_tt3 {g0 : Int32} {g1 : Int32} {g2 : Int32} {C15 : List Int32} {C18 : List Int32} {C33 : List Int32} {C48 : List Int32} {C53 : List Int32} {C58 : List Int32} {C64 : List Int32} {tt : Int32} (hg0 : own_G g0) (hg1 : own_G g1) (hg2 : own_G g2) (hC15 : C15 = [(0 : Int32), (0 : Int32), (0 : Int32)]) (hC18 : C18 = (C15.set g0.toNatClampNeg ((C15.getD g0.toNatClampNeg 0) + (1 : Int32)))) (hC33 : C33 = (C18.set g1.toNatClampNeg ((C18.getD g1.toNatClampNeg 0) + (1 : Int32)))) (hC48 : C48 = (C33.set g2.toNatClampNeg ((C33.getD g2.toNatClampNeg 0) + (1 : Int32)))) (hC53 : C53 = [(0 : Int32), (0 : Int32), (0 : Int32), (0 : Int32)]) (hC58 : C58 = (C53.set 2 ((C53.getD 1 0) + (C48.getD 1 0)))) (hC64 : C64 = (C58.set 3 ((C58.getD 2 0) + (C48.getD 2 0)))) (htt : tt = (C64.getD 3 0)) : ¬ tt < 0 ∧ tt.toNatClampNeg ≤ 3 := by
  subst htt hC64 hC58 hC53 hC48 hC33 hC18 hC15
  rcases hg0 with rfl | rfl | rfl <;> rcases hg1 with rfl | rfl | rfl <;> rcases hg2 with rfl | rfl | rfl <;> decide
theorem own_mb3_0 {g0 : Int32} {g1 : Int32} {g2 : Int32} {C15 : List Int32} {C18 : List Int32} {C33 : List Int32} {C48 : List Int32} {C53 : List Int32} {C58 : List Int32} {C64 : List Int32} {C74 : List Int32} {C77 : List Int32} {tt : Int32} (hg0 : own_G g0) (hg1 : own_G g1) (hg2 : own_G g2) (hC15 : C15 = [(0 : Int32), (0 : Int32), (0 : Int32)]) (hC18 : C18 = (C15.set g0.toNatClampNeg ((C15.getD g0.toNatClampNeg 0) + (1 : Int32)))) (hC33 : C33 = (C18.set g1.toNatClampNeg ((C18.getD g1.toNatClampNeg 0) + (1 : Int32)))) (hC48 : C48 = (C33.set g2.toNatClampNeg ((C33.getD g2.toNatClampNeg 0) + (1 : Int32)))) (hC53 : C53 = [(0 : Int32), (0 : Int32), (0 : Int32), (0 : Int32)]) (hC58 : C58 = (C53.set 2 ((C53.getD 1 0) + (C48.getD 1 0)))) (hC64 : C64 = (C58.set 3 ((C58.getD 2 0) + (C48.getD 2 0)))) (hC74 : C74 = [(C64.getD 0 0), (C64.getD 1 0), (C64.getD 2 0)]) (hC77 : C77 = (C74.set g0.toNatClampNeg ((C74.getD g0.toNatClampNeg 0) + (1 : Int32)))) (htt : tt = (C64.getD 3 0)) (y0 : (0 : Int32) < g0) : ¬ (C74.getD g0.toNatClampNeg 0) < 0 ∧ (C74.getD g0.toNatClampNeg 0) < tt := by
  subst htt hC77 hC74 hC64 hC58 hC53 hC48 hC33 hC18 hC15
  rcases hg0 with rfl | rfl | rfl <;> rcases hg1 with rfl | rfl | rfl <;> rcases hg2 with rfl | rfl | rfl <;> revert y0 <;> decide
theorem own_mb3_1 {g0 : Int32} {g1 : Int32} {g2 : Int32} {C15 : List Int32} {C18 : List Int32} {C33 : List Int32} {C48 : List Int32} {C53 : List Int32} {C58 : List Int32} {C64 : List Int32} {C74 : List Int32} {C77 : List Int32} {C89 : List Int32} {tt : Int32} (hg0 : own_G g0) (hg1 : own_G g1) (hg2 : own_G g2) (hC15 : C15 = [(0 : Int32), (0 : Int32), (0 : Int32)]) (hC18 : C18 = (C15.set g0.toNatClampNeg ((C15.getD g0.toNatClampNeg 0) + (1 : Int32)))) (hC33 : C33 = (C18.set g1.toNatClampNeg ((C18.getD g1.toNatClampNeg 0) + (1 : Int32)))) (hC48 : C48 = (C33.set g2.toNatClampNeg ((C33.getD g2.toNatClampNeg 0) + (1 : Int32)))) (hC53 : C53 = [(0 : Int32), (0 : Int32), (0 : Int32), (0 : Int32)]) (hC58 : C58 = (C53.set 2 ((C53.getD 1 0) + (C48.getD 1 0)))) (hC64 : C64 = (C58.set 3 ((C58.getD 2 0) + (C48.getD 2 0)))) (hC74 : C74 = [(C64.getD 0 0), (C64.getD 1 0), (C64.getD 2 0)]) (hC77 : C77 = (C74.set g0.toNatClampNeg ((C74.getD g0.toNatClampNeg 0) + (1 : Int32)))) (hC89 : C89 = (C77.set g1.toNatClampNeg ((C77.getD g1.toNatClampNeg 0) + (1 : Int32)))) (htt : tt = (C64.getD 3 0)) (y0 : (0 : Int32) < g0) (y1 : (0 : Int32) < g1) : ¬ (C77.getD g1.toNatClampNeg 0) < 0 ∧ (C77.getD g1.toNatClampNeg 0) < tt := by
  subst htt hC89 hC77 hC74 hC64 hC58 hC53 hC48 hC33 hC18 hC15
  rcases hg0 with rfl | rfl | rfl <;> rcases hg1 with rfl | rfl | rfl <;> rcases hg2 with rfl | rfl | rfl <;> revert y0 y1 <;> decide
theorem own_mb3_2 {g0 : Int32} {g1 : Int32} {g2 : Int32} {C15 : List Int32} {C18 : List Int32} {C33 : List Int32} {C48 : List Int32} {C53 : List Int32} {C58 : List Int32} {C64 : List Int32} {C74 : List Int32} {C77 : List Int32} {C89 : List Int32} {C101 : List Int32} {tt : Int32} (hg0 : own_G g0) (hg1 : own_G g1) (hg2 : own_G g2) (hC15 : C15 = [(0 : Int32), (0 : Int32), (0 : Int32)]) (hC18 : C18 = (C15.set g0.toNatClampNeg ((C15.getD g0.toNatClampNeg 0) + (1 : Int32)))) (hC33 : C33 = (C18.set g1.toNatClampNeg ((C18.getD g1.toNatClampNeg 0) + (1 : Int32)))) (hC48 : C48 = (C33.set g2.toNatClampNeg ((C33.getD g2.toNatClampNeg 0) + (1 : Int32)))) (hC53 : C53 = [(0 : Int32), (0 : Int32), (0 : Int32), (0 : Int32)]) (hC58 : C58 = (C53.set 2 ((C53.getD 1 0) + (C48.getD 1 0)))) (hC64 : C64 = (C58.set 3 ((C58.getD 2 0) + (C48.getD 2 0)))) (hC74 : C74 = [(C64.getD 0 0), (C64.getD 1 0), (C64.getD 2 0)]) (hC77 : C77 = (C74.set g0.toNatClampNeg ((C74.getD g0.toNatClampNeg 0) + (1 : Int32)))) (hC89 : C89 = (C77.set g1.toNatClampNeg ((C77.getD g1.toNatClampNeg 0) + (1 : Int32)))) (hC101 : C101 = (C89.set g2.toNatClampNeg ((C89.getD g2.toNatClampNeg 0) + (1 : Int32)))) (htt : tt = (C64.getD 3 0)) (y0 : (0 : Int32) < g0) (y1 : (0 : Int32) < g1) (y2 : (0 : Int32) < g2) : ¬ (C89.getD g2.toNatClampNeg 0) < 0 ∧ (C89.getD g2.toNatClampNeg 0) < tt := by
  subst htt hC101 hC89 hC77 hC74 hC64 hC58 hC53 hC48 hC33 hC18 hC15
  rcases hg0 with rfl | rfl | rfl <;> rcases hg1 with rfl | rfl | rfl <;> rcases hg2 with rfl | rfl | rfl <;> revert y0 y1 y2 <;> decide
theorem own_mb3_3 {g0 : Int32} {g1 : Int32} {g2 : Int32} {C15 : List Int32} {C18 : List Int32} {C33 : List Int32} {C48 : List Int32} {C53 : List Int32} {C58 : List Int32} {C64 : List Int32} {C74 : List Int32} {C77 : List Int32} {C155 : List Int32} {tt : Int32} (hg0 : own_G g0) (hg1 : own_G g1) (hg2 : own_G g2) (hC15 : C15 = [(0 : Int32), (0 : Int32), (0 : Int32)]) (hC18 : C18 = (C15.set g0.toNatClampNeg ((C15.getD g0.toNatClampNeg 0) + (1 : Int32)))) (hC33 : C33 = (C18.set g1.toNatClampNeg ((C18.getD g1.toNatClampNeg 0) + (1 : Int32)))) (hC48 : C48 = (C33.set g2.toNatClampNeg ((C33.getD g2.toNatClampNeg 0) + (1 : Int32)))) (hC53 : C53 = [(0 : Int32), (0 : Int32), (0 : Int32), (0 : Int32)]) (hC58 : C58 = (C53.set 2 ((C53.getD 1 0) + (C48.getD 1 0)))) (hC64 : C64 = (C58.set 3 ((C58.getD 2 0) + (C48.getD 2 0)))) (hC74 : C74 = [(C64.getD 0 0), (C64.getD 1 0), (C64.getD 2 0)]) (hC77 : C77 = (C74.set g0.toNatClampNeg ((C74.getD g0.toNatClampNeg 0) + (1 : Int32)))) (hC155 : C155 = (C77.set g2.toNatClampNeg ((C77.getD g2.toNatClampNeg 0) + (1 : Int32)))) (htt : tt = (C64.getD 3 0)) (y0 : (0 : Int32) < g0) (y1 : ¬ ((0 : Int32) < g1)) (y2 : (0 : Int32) < g2) : ¬ (C77.getD g2.toNatClampNeg 0) < 0 ∧ (C77.getD g2.toNatClampNeg 0) < tt := by
  subst htt hC155 hC77 hC74 hC64 hC58 hC53 hC48 hC33 hC18 hC15
  rcases hg0 with rfl | rfl | rfl <;> rcases hg1 with rfl | rfl | rfl <;> rcases hg2 with rfl | rfl | rfl <;> revert y0 y1 y2 <;> decide
theorem own_mb3_4 {g0 : Int32} {g1 : Int32} {g2 : Int32} {C15 : List Int32} {C18 : List Int32} {C33 : List Int32} {C48 : List Int32} {C53 : List Int32} {C58 : List Int32} {C64 : List Int32} {C206 : List Int32} {C209 : List Int32} {tt : Int32} (hg0 : own_G g0) (hg1 : own_G g1) (hg2 : own_G g2) (hC15 : C15 = [(0 : Int32), (0 : Int32), (0 : Int32)]) (hC18 : C18 = (C15.set g0.toNatClampNeg ((C15.getD g0.toNatClampNeg 0) + (1 : Int32)))) (hC33 : C33 = (C18.set g1.toNatClampNeg ((C18.getD g1.toNatClampNeg 0) + (1 : Int32)))) (hC48 : C48 = (C33.set g2.toNatClampNeg ((C33.getD g2.toNatClampNeg 0) + (1 : Int32)))) (hC53 : C53 = [(0 : Int32), (0 : Int32), (0 : Int32), (0 : Int32)]) (hC58 : C58 = (C53.set 2 ((C53.getD 1 0) + (C48.getD 1 0)))) (hC64 : C64 = (C58.set 3 ((C58.getD 2 0) + (C48.getD 2 0)))) (hC206 : C206 = [(C64.getD 0 0), (C64.getD 1 0), (C64.getD 2 0)]) (hC209 : C209 = (C206.set g1.toNatClampNeg ((C206.getD g1.toNatClampNeg 0) + (1 : Int32)))) (htt : tt = (C64.getD 3 0)) (y0 : ¬ ((0 : Int32) < g0)) (y1 : (0 : Int32) < g1) : ¬ (C206.getD g1.toNatClampNeg 0) < 0 ∧ (C206.getD g1.toNatClampNeg 0) < tt := by
  subst htt hC209 hC206 hC64 hC58 hC53 hC48 hC33 hC18 hC15
  rcases hg0 with rfl | rfl | rfl <;> rcases hg1 with rfl | rfl | rfl <;> rcases hg2 with rfl | rfl | rfl <;> revert y0 y1 <;> decide
theorem own_mb3_5 {g0 : Int32} {g1 : Int32} {g2 : Int32} {C15 : List Int32} {C18 : List Int32} {C33 : List Int32} {C48 : List Int32} {C53 : List Int32} {C58 : List Int32} {C64 : List Int32} {C206 : List Int32} {C209 : List Int32} {C221 : List Int32} {tt : Int32} (hg0 : own_G g0) (hg1 : own_G g1) (hg2 : own_G g2) (hC15 : C15 = [(0 : Int32), (0 : Int32), (0 : Int32)]) (hC18 : C18 = (C15.set g0.toNatClampNeg ((C15.getD g0.toNatClampNeg 0) + (1 : Int32)))) (hC33 : C33 = (C18.set g1.toNatClampNeg ((C18.getD g1.toNatClampNeg 0) + (1 : Int32)))) (hC48 : C48 = (C33.set g2.toNatClampNeg ((C33.getD g2.toNatClampNeg 0) + (1 : Int32)))) (hC53 : C53 = [(0 : Int32), (0 : Int32), (0 : Int32), (0 : Int32)]) (hC58 : C58 = (C53.set 2 ((C53.getD 1 0) + (C48.getD 1 0)))) (hC64 : C64 = (C58.set 3 ((C58.getD 2 0) + (C48.getD 2 0)))) (hC206 : C206 = [(C64.getD 0 0), (C64.getD 1 0), (C64.getD 2 0)]) (hC209 : C209 = (C206.set g1.toNatClampNeg ((C206.getD g1.toNatClampNeg 0) + (1 : Int32)))) (hC221 : C221 = (C209.set g2.toNatClampNeg ((C209.getD g2.toNatClampNeg 0) + (1 : Int32)))) (htt : tt = (C64.getD 3 0)) (y0 : ¬ ((0 : Int32) < g0)) (y1 : (0 : Int32) < g1) (y2 : (0 : Int32) < g2) : ¬ (C209.getD g2.toNatClampNeg 0) < 0 ∧ (C209.getD g2.toNatClampNeg 0) < tt := by
  subst htt hC221 hC209 hC206 hC64 hC58 hC53 hC48 hC33 hC18 hC15
  rcases hg0 with rfl | rfl | rfl <;> rcases hg1 with rfl | rfl | rfl <;> rcases hg2 with rfl | rfl | rfl <;> revert y0 y1 y2 <;> decide
theorem own_mb3_6 {g0 : Int32} {g1 : Int32} {g2 : Int32} {C15 : List Int32} {C18 : List Int32} {C33 : List Int32} {C48 : List Int32} {C53 : List Int32} {C58 : List Int32} {C64 : List Int32} {C272 : List Int32} {C275 : List Int32} {tt : Int32} (hg0 : own_G g0) (hg1 : own_G g1) (hg2 : own_G g2) (hC15 : C15 = [(0 : Int32), (0 : Int32), (0 : Int32)]) (hC18 : C18 = (C15.set g0.toNatClampNeg ((C15.getD g0.toNatClampNeg 0) + (1 : Int32)))) (hC33 : C33 = (C18.set g1.toNatClampNeg ((C18.getD g1.toNatClampNeg 0) + (1 : Int32)))) (hC48 : C48 = (C33.set g2.toNatClampNeg ((C33.getD g2.toNatClampNeg 0) + (1 : Int32)))) (hC53 : C53 = [(0 : Int32), (0 : Int32), (0 : Int32), (0 : Int32)]) (hC58 : C58 = (C53.set 2 ((C53.getD 1 0) + (C48.getD 1 0)))) (hC64 : C64 = (C58.set 3 ((C58.getD 2 0) + (C48.getD 2 0)))) (hC272 : C272 = [(C64.getD 0 0), (C64.getD 1 0), (C64.getD 2 0)]) (hC275 : C275 = (C272.set g2.toNatClampNeg ((C272.getD g2.toNatClampNeg 0) + (1 : Int32)))) (htt : tt = (C64.getD 3 0)) (y0 : ¬ ((0 : Int32) < g0)) (y1 : ¬ ((0 : Int32) < g1)) (y2 : (0 : Int32) < g2) : ¬ (C272.getD g2.toNatClampNeg 0) < 0 ∧ (C272.getD g2.toNatClampNeg 0) < tt := by
  subst htt hC275 hC272 hC64 hC58 hC53 hC48 hC33 hC18 hC15
  rcases hg0 with rfl | rfl | rfl <;> rcases hg1 with rfl | rfl | rfl <;> rcases hg2 with rfl | rfl | rfl <;> revert y0 y1 y2 <;> decide
theorem d1_0 : decode prog_33_method_1_code 0 = .ok (.aload_n 0, 1) := by decide +kernel
theorem d1_1 : decode prog_33_method_1_code 1 = .ok (.invokespecial 1, 3) := by decide +kernel
theorem d1_4 : decode prog_33_method_1_code 4 = .ok (.aload_n 1, 1) := by decide +kernel
theorem d1_5 : decode prog_33_method_1_code 5 = .ok (.arraylength, 1) := by decide +kernel
theorem d1_6 : decode prog_33_method_1_code 6 = .ok (.aload_n 2, 1) := by decide +kernel
theorem d1_7 : decode prog_33_method_1_code 7 = .ok (.arraylength, 1) := by decide +kernel
theorem d1_8 : decode prog_33_method_1_code 8 = .ok (.if_icmp .eq 20, 3) := by decide +kernel
theorem d1_28 : decode prog_33_method_1_code 28 = .ok (.iload_n 3, 1) := by decide +kernel
theorem d1_29 : decode prog_33_method_1_code 29 = .ok (.iconst 1, 1) := by decide +kernel
theorem d1_30 : decode prog_33_method_1_code 30 = .ok (.iadd, 1) := by decide +kernel
theorem d1_31 : decode prog_33_method_1_code 31 = .ok (.newarray .int, 2) := by decide +kernel
theorem d1_33 : decode prog_33_method_1_code 33 = .ok (.astore 4, 2) := by decide +kernel
theorem d1_35 : decode prog_33_method_1_code 35 = .ok (.iconst 0, 1) := by decide +kernel
theorem d1_36 : decode prog_33_method_1_code 36 = .ok (.istore 5, 2) := by decide +kernel
theorem d1_38 : decode prog_33_method_1_code 38 = .ok (.iload 5, 2) := by decide +kernel
theorem d1_40 : decode prog_33_method_1_code 40 = .ok (.aload_n 1, 1) := by decide +kernel
theorem d1_41 : decode prog_33_method_1_code 41 = .ok (.arraylength, 1) := by decide +kernel
theorem d1_42 : decode prog_33_method_1_code 42 = .ok (.if_icmp .ge 107, 3) := by decide +kernel
theorem d1_45 : decode prog_33_method_1_code 45 = .ok (.aload_n 1, 1) := by decide +kernel
theorem d1_46 : decode prog_33_method_1_code 46 = .ok (.iload 5, 2) := by decide +kernel
theorem d1_48 : decode prog_33_method_1_code 48 = .ok (.iaload, 1) := by decide +kernel
theorem d1_49 : decode prog_33_method_1_code 49 = .ok (.ifCond .lt 11, 3) := by decide +kernel
theorem d1_52 : decode prog_33_method_1_code 52 = .ok (.aload_n 1, 1) := by decide +kernel
theorem d1_53 : decode prog_33_method_1_code 53 = .ok (.iload 5, 2) := by decide +kernel
theorem d1_55 : decode prog_33_method_1_code 55 = .ok (.iaload, 1) := by decide +kernel
theorem d1_56 : decode prog_33_method_1_code 56 = .ok (.iload_n 3, 1) := by decide +kernel
theorem d1_57 : decode prog_33_method_1_code 57 = .ok (.if_icmp .le 22, 3) := by decide +kernel
theorem d1_79 : decode prog_33_method_1_code 79 = .ok (.aload_n 2, 1) := by decide +kernel
theorem d1_80 : decode prog_33_method_1_code 80 = .ok (.iload 5, 2) := by decide +kernel
theorem d1_82 : decode prog_33_method_1_code 82 = .ok (.daload, 1) := by decide +kernel
theorem d1_83 : decode prog_33_method_1_code 83 = .ok (.dconst 0, 1) := by decide +kernel
theorem d1_84 : decode prog_33_method_1_code 84 = .ok (.dcmp .l, 1) := by decide +kernel
theorem d1_85 : decode prog_33_method_1_code 85 = .ok (.ifCond .lt 28, 3) := by decide +kernel
theorem d1_88 : decode prog_33_method_1_code 88 = .ok (.aload_n 2, 1) := by decide +kernel
theorem d1_89 : decode prog_33_method_1_code 89 = .ok (.iload 5, 2) := by decide +kernel
theorem d1_91 : decode prog_33_method_1_code 91 = .ok (.daload, 1) := by decide +kernel
theorem d1_92 : decode prog_33_method_1_code 92 = .ok (.dconst 1, 1) := by decide +kernel
theorem d1_93 : decode prog_33_method_1_code 93 = .ok (.dcmp .g, 1) := by decide +kernel
theorem d1_94 : decode prog_33_method_1_code 94 = .ok (.ifCond .gt 19, 3) := by decide +kernel
theorem d1_97 : decode prog_33_method_1_code 97 = .ok (.aload_n 1, 1) := by decide +kernel
theorem d1_98 : decode prog_33_method_1_code 98 = .ok (.iload 5, 2) := by decide +kernel
theorem d1_100 : decode prog_33_method_1_code 100 = .ok (.iaload, 1) := by decide +kernel
theorem d1_101 : decode prog_33_method_1_code 101 = .ok (.ifCond .ne 31, 3) := by decide +kernel
theorem d1_104 : decode prog_33_method_1_code 104 = .ok (.aload_n 2, 1) := by decide +kernel
theorem d1_105 : decode prog_33_method_1_code 105 = .ok (.iload 5, 2) := by decide +kernel
theorem d1_107 : decode prog_33_method_1_code 107 = .ok (.daload, 1) := by decide +kernel
theorem d1_108 : decode prog_33_method_1_code 108 = .ok (.dconst 0, 1) := by decide +kernel
theorem d1_109 : decode prog_33_method_1_code 109 = .ok (.dcmp .l, 1) := by decide +kernel
theorem d1_110 : decode prog_33_method_1_code 110 = .ok (.ifCond .eq 22, 3) := by decide +kernel
theorem d1_132 : decode prog_33_method_1_code 132 = .ok (.aload 4, 2) := by decide +kernel
theorem d1_134 : decode prog_33_method_1_code 134 = .ok (.aload_n 1, 1) := by decide +kernel
theorem d1_135 : decode prog_33_method_1_code 135 = .ok (.iload 5, 2) := by decide +kernel
theorem d1_137 : decode prog_33_method_1_code 137 = .ok (.iaload, 1) := by decide +kernel
theorem d1_138 : decode prog_33_method_1_code 138 = .ok (.dup2, 1) := by decide +kernel
theorem d1_139 : decode prog_33_method_1_code 139 = .ok (.iaload, 1) := by decide +kernel
theorem d1_140 : decode prog_33_method_1_code 140 = .ok (.iconst 1, 1) := by decide +kernel
theorem d1_141 : decode prog_33_method_1_code 141 = .ok (.iadd, 1) := by decide +kernel
theorem d1_142 : decode prog_33_method_1_code 142 = .ok (.iastore, 1) := by decide +kernel
theorem d1_143 : decode prog_33_method_1_code 143 = .ok (.iinc 5 1, 3) := by decide +kernel
theorem d1_146 : decode prog_33_method_1_code 146 = .ok (.goto (-108), 3) := by decide +kernel
theorem d1_149 : decode prog_33_method_1_code 149 = .ok (.iload_n 3, 1) := by decide +kernel
theorem d1_150 : decode prog_33_method_1_code 150 = .ok (.iconst 2, 1) := by decide +kernel
theorem d1_151 : decode prog_33_method_1_code 151 = .ok (.iadd, 1) := by decide +kernel
theorem d1_152 : decode prog_33_method_1_code 152 = .ok (.newarray .int, 2) := by decide +kernel
theorem d1_154 : decode prog_33_method_1_code 154 = .ok (.astore 5, 2) := by decide +kernel
theorem d1_156 : decode prog_33_method_1_code 156 = .ok (.iconst 1, 1) := by decide +kernel
theorem d1_157 : decode prog_33_method_1_code 157 = .ok (.istore 6, 2) := by decide +kernel
theorem d1_159 : decode prog_33_method_1_code 159 = .ok (.iload 6, 2) := by decide +kernel
theorem d1_161 : decode prog_33_method_1_code 161 = .ok (.iload_n 3, 1) := by decide +kernel
theorem d1_162 : decode prog_33_method_1_code 162 = .ok (.if_icmp .gt 27, 3) := by decide +kernel
theorem d1_165 : decode prog_33_method_1_code 165 = .ok (.aload 5, 2) := by decide +kernel
theorem d1_167 : decode prog_33_method_1_code 167 = .ok (.iload 6, 2) := by decide +kernel
theorem d1_169 : decode prog_33_method_1_code 169 = .ok (.iconst 1, 1) := by decide +kernel
theorem d1_170 : decode prog_33_method_1_code 170 = .ok (.iadd, 1) := by decide +kernel
theorem d1_171 : decode prog_33_method_1_code 171 = .ok (.aload 5, 2) := by decide +kernel
theorem d1_173 : decode prog_33_method_1_code 173 = .ok (.iload 6, 2) := by decide +kernel
theorem d1_175 : decode prog_33_method_1_code 175 = .ok (.iaload, 1) := by decide +kernel
theorem d1_176 : decode prog_33_method_1_code 176 = .ok (.aload 4, 2) := by decide +kernel
theorem d1_178 : decode prog_33_method_1_code 178 = .ok (.iload 6, 2) := by decide +kernel
theorem d1_180 : decode prog_33_method_1_code 180 = .ok (.iaload, 1) := by decide +kernel
theorem d1_181 : decode prog_33_method_1_code 181 = .ok (.iadd, 1) := by decide +kernel
theorem d1_182 : decode prog_33_method_1_code 182 = .ok (.iastore, 1) := by decide +kernel
theorem d1_183 : decode prog_33_method_1_code 183 = .ok (.iinc 6 1, 3) := by decide +kernel
theorem d1_186 : decode prog_33_method_1_code 186 = .ok (.goto (-27), 3) := by decide +kernel
theorem d1_189 : decode prog_33_method_1_code 189 = .ok (.aload 5, 2) := by decide +kernel
theorem d1_191 : decode prog_33_method_1_code 191 = .ok (.iload_n 3, 1) := by decide +kernel
theorem d1_192 : decode prog_33_method_1_code 192 = .ok (.iconst 1, 1) := by decide +kernel
theorem d1_193 : decode prog_33_method_1_code 193 = .ok (.iadd, 1) := by decide +kernel
theorem d1_194 : decode prog_33_method_1_code 194 = .ok (.iaload, 1) := by decide +kernel
theorem d1_195 : decode prog_33_method_1_code 195 = .ok (.newarray .int, 2) := by decide +kernel
theorem d1_197 : decode prog_33_method_1_code 197 = .ok (.astore 6, 2) := by decide +kernel
theorem d1_199 : decode prog_33_method_1_code 199 = .ok (.aload 5, 2) := by decide +kernel
theorem d1_201 : decode prog_33_method_1_code 201 = .ok (.iload_n 3, 1) := by decide +kernel
theorem d1_202 : decode prog_33_method_1_code 202 = .ok (.iconst 1, 1) := by decide +kernel
theorem d1_203 : decode prog_33_method_1_code 203 = .ok (.iadd, 1) := by decide +kernel
theorem d1_204 : decode prog_33_method_1_code 204 = .ok (.invokestatic 20, 3) := by decide +kernel
theorem d1_207 : decode prog_33_method_1_code 207 = .ok (.astore 7, 2) := by decide +kernel
theorem d1_209 : decode prog_33_method_1_code 209 = .ok (.iconst 0, 1) := by decide +kernel
theorem d1_210 : decode prog_33_method_1_code 210 = .ok (.istore 8, 2) := by decide +kernel
theorem d1_212 : decode prog_33_method_1_code 212 = .ok (.iload 8, 2) := by decide +kernel
theorem d1_214 : decode prog_33_method_1_code 214 = .ok (.aload_n 1, 1) := by decide +kernel
theorem d1_215 : decode prog_33_method_1_code 215 = .ok (.arraylength, 1) := by decide +kernel
theorem d1_216 : decode prog_33_method_1_code 216 = .ok (.if_icmp .ge 33, 3) := by decide +kernel
theorem d1_219 : decode prog_33_method_1_code 219 = .ok (.aload_n 1, 1) := by decide +kernel
theorem d1_220 : decode prog_33_method_1_code 220 = .ok (.iload 8, 2) := by decide +kernel
theorem d1_222 : decode prog_33_method_1_code 222 = .ok (.iaload, 1) := by decide +kernel
theorem d1_223 : decode prog_33_method_1_code 223 = .ok (.ifCond .le 20, 3) := by decide +kernel
theorem d1_226 : decode prog_33_method_1_code 226 = .ok (.aload 6, 2) := by decide +kernel
theorem d1_228 : decode prog_33_method_1_code 228 = .ok (.aload 7, 2) := by decide +kernel
theorem d1_230 : decode prog_33_method_1_code 230 = .ok (.aload_n 1, 1) := by decide +kernel
theorem d1_231 : decode prog_33_method_1_code 231 = .ok (.iload 8, 2) := by decide +kernel
theorem d1_233 : decode prog_33_method_1_code 233 = .ok (.iaload, 1) := by decide +kernel
theorem d1_234 : decode prog_33_method_1_code 234 = .ok (.dup2, 1) := by decide +kernel
theorem d1_235 : decode prog_33_method_1_code 235 = .ok (.iaload, 1) := by decide +kernel
theorem d1_236 : decode prog_33_method_1_code 236 = .ok (.dup_x2, 1) := by decide +kernel
theorem d1_237 : decode prog_33_method_1_code 237 = .ok (.iconst 1, 1) := by decide +kernel
theorem d1_238 : decode prog_33_method_1_code 238 = .ok (.iadd, 1) := by decide +kernel
theorem d1_239 : decode prog_33_method_1_code 239 = .ok (.iastore, 1) := by decide +kernel
theorem d1_240 : decode prog_33_method_1_code 240 = .ok (.iload 8, 2) := by decide +kernel
theorem d1_242 : decode prog_33_method_1_code 242 = .ok (.iastore, 1) := by decide +kernel
theorem d1_243 : decode prog_33_method_1_code 243 = .ok (.iinc 8 1, 3) := by decide +kernel
theorem d1_246 : decode prog_33_method_1_code 246 = .ok (.goto (-34), 3) := by decide +kernel
theorem d1_249 : decode prog_33_method_1_code 249 = .ok (.aload_n 0, 1) := by decide +kernel
theorem d1_250 : decode prog_33_method_1_code 250 = .ok (.aload_n 1, 1) := by decide +kernel
theorem d1_251 : decode prog_33_method_1_code 251 = .ok (.putfield 26, 3) := by decide +kernel
theorem d1_254 : decode prog_33_method_1_code 254 = .ok (.aload_n 0, 1) := by decide +kernel
theorem d1_255 : decode prog_33_method_1_code 255 = .ok (.aload_n 2, 1) := by decide +kernel
theorem d1_256 : decode prog_33_method_1_code 256 = .ok (.putfield 32, 3) := by decide +kernel
theorem d1_259 : decode prog_33_method_1_code 259 = .ok (.aload_n 0, 1) := by decide +kernel
theorem d1_260 : decode prog_33_method_1_code 260 = .ok (.aload 6, 2) := by decide +kernel
theorem d1_262 : decode prog_33_method_1_code 262 = .ok (.putfield 36, 3) := by decide +kernel
theorem d1_265 : decode prog_33_method_1_code 265 = .ok (.aload_n 0, 1) := by decide +kernel
theorem d1_266 : decode prog_33_method_1_code 266 = .ok (.aload 5, 2) := by decide +kernel
theorem d1_268 : decode prog_33_method_1_code 268 = .ok (.putfield 39, 3) := by decide +kernel
theorem d1_271 : decode prog_33_method_1_code 271 = .ok (.return_, 1) := by decide +kernel
def Q10 (Z : State) (o : Addr) (q0 : Addr) (q1 : Addr) (kg : ClassId) (ks : ClassId) (h0 : Heap) (v : Option Value) (h : Heap) : Prop := v = none ∧ Keep h0 h [o] ∧ Exa Z h o "com/example/sieve_for_links/sieveforlinks/VirtualLinks" ∧ Fld Z h o "com/example/sieve_for_links/sieveforlinks/VirtualLinks" "groups" "[I" (.ref q0)
abbrev GoB10 (l : Launch) (Z : State) (n0 : Nat) (Q : Option Value → Heap → Prop) := Go l Z ({ frames := 2, cells := 4, slots := 10, locals := 32 } : Room) (⟨"com/example/sieve_for_links/sieveforlinks/VirtualLinks", "<init>", "([I[DI)V"⟩ : MethodName) prog_33_method_1_code 9 none n0 Q
theorem ef10 (m : MethodId) (o : Addr) (q0 : Addr) (q1 : Addr) : entryFrame m #[(.ref o), (.ref q0), (.ref q1), (.int (2 : Int32))] 9 = mkF m 0 #[.val (.ref o), .val (.ref q0), .val (.ref q1), .val (.int (2 : Int32)), .unset, .unset, .unset, .unset, .unset] [] := by first | (simp [entryFrame, mkF, argsToLocals, Value.category]; done) | rfl
set_option maxRecDepth 65536 in
set_option maxHeartbeats 40000000 in
theorem rm10 (l : Launch) (Z : State) (a0 : Array Value) (hw : ∀ d ∈ tables_1, d.before a0 Z = true) (o : Addr) (q0 : Addr) (q1 : Addr) (kg : ClassId) (ks : ClassId) (h0 : Heap) (n0 : Nat) (Z0 : n0 ≤ h0.size) (g_o : n0 ≤ o) (E_o : Exa Z h0 o "com/example/sieve_for_links/sieveforlinks/VirtualLinks") (F_groups : Fld Z h0 o "com/example/sieve_for_links/sieveforlinks/VirtualLinks" "groups" "[I" .null) (F_shares : Fld Z h0 o "com/example/sieve_for_links/sieveforlinks/VirtualLinks" "shares" "[D" .null) (F_members : Fld Z h0 o "com/example/sieve_for_links/sieveforlinks/VirtualLinks" "members" "[I" .null) (F_memberStarts : Fld Z h0 o "com/example/sieve_for_links/sieveforlinks/VirtualLinks" "memberStarts" "[I" .null) (A_g : Arv Z h0 q0 kg .int (0 : Int32) [] (.int (0 : Int32))) (A_s : Arv Z h0 q1 ks .double (0 : Int32) [] (.double (0 : UInt64))) :
    Con l Z ({ frames := 2, cells := 4, slots := 10, locals := 32 } : Room) (⟨"com/example/sieve_for_links/sieveforlinks/VirtualLinks", "<init>", "([I[DI)V"⟩ : MethodName) prog_33_method_1_code 9 none n0 #[(.ref o), (.ref q0), (.ref q1), (.int (2 : Int32))] h0 (Q10 Z o q0 q1 kg ks h0) := by
  refine OwnW.Con.of (by first | decide +kernel | exact plainFor_of_name (by simp [plainName, overriddenIn])) (fun m => ef10 m o q0 q1) ?_
  show GoB10 l Z n0 (Q10 Z o q0 q1 kg ks h0) h0 0 0 0 #[.val (.ref o), .val (.ref q0), .val (.ref q1), .val (.int (2 : Int32)), .unset, .unset, .unset, .unset, .unset] []
  refine OwnW.aloadN (pc' := 1) d1_0 rfl (rfl) rfl ?_
  refine OwnW.initO (a0 := a0) (pc' := 4) (W := 0) d1_1 (hw _ (List.mem_of_getElem? (i := 8) rfl)) (hw _ (List.mem_of_getElem? (i := 9) rfl)) (hw _ (List.mem_of_getElem? (i := 10) rfl)) rfl (by decide) (Nat.le_of_ble_eq_true rfl) (by decide) rfl ?_
  refine OwnW.aloadN (pc' := 5) d1_4 rfl (rfl) rfl ?_
  obtain ⟨cl1, Ar1, qk1, Sz1, Mn1, Hv1, Gf1⟩ := id A_g
  refine OwnW.alen (pc' := 6) (x := (0 : Int32)) d1_5 Ar1 (len_of Sz1 Mn1) rfl ?_
  refine OwnW.aloadN (pc' := 7) d1_6 rfl (rfl) rfl ?_
  obtain ⟨cl2, Ar2, qk2, Sz2, Mn2, Hv2, Gf2⟩ := id A_s
  refine OwnW.alen (pc' := 8) (x := (0 : Int32)) d1_7 Ar2 (len_of Sz2 Mn2) rfl ?_
  refine OwnW.icmpY (pc' := 28) d1_8 (teq (by decide)).1 (by decide) (by decide) ?_
  refine OwnW.iloadN (pc' := 29) d1_28 rfl rfl ?_
  refine OwnW.iconst (pc' := 30) (v := (1 : Int32)) d1_29 rfl rfl ?_
  refine OwnW.iadd (pc' := 31) d1_30 rfl ?_
  show GoB10 l Z n0 (Q10 Z o q0 q1 kg ks h0) h0 0 0 31 #[.val (.ref o), .val (.ref q0), .val (.ref q1), .val (.int (2 : Int32)), .unset, .unset, .unset, .unset, .unset] [(.int (3 : Int32))]
  refine OwnW.newP (a0 := a0) (pc' := 33) (cap := 3) (k' := 1) (n' := 3) d1_31 (hw _ (List.mem_of_getElem? (i := 0) rfl)) (by decide) (by decide) (by decide) rfl rfl (by decide) (by decide) rfl ?_
  intro h3 kc3 ad3 g3 E3 A3
  have lt_o_ad3 : @LT.lt Nat _ o ad3 := Nat.lt_of_lt_of_le (E_o).lt (Nat.le_of_eq g3.symm)
  have lt_q0_ad3 : @LT.lt Nat _ q0 ad3 := Nat.lt_of_lt_of_le (A_g).lt (Nat.le_of_eq g3.symm)
  have lt_q1_ad3 : @LT.lt Nat _ q1 ad3 := Nat.lt_of_lt_of_le (A_s).lt (Nat.le_of_eq g3.symm)
  have ge_ad3 : n0 ≤ ad3 := Nat.le_trans Z0 (Nat.le_of_eq g3.symm)
  have sz_ad3 : n0 ≤ h3.size := Nat.le_trans Z0 E3.1
  have V3 : Arv Z h3 ad3 kc3 .int (3 : Int32) [(.int (0 : Int32)), (.int (0 : Int32)), (.int (0 : Int32))] (.int (0 : Int32)) := (Arv.new A3 (by decide)).pad (pad_rep [] _ 3)
  refine OwnW.astore (pc' := 35) (L' := #[.val (.ref o), .val (.ref q0), .val (.ref q1), .val (.int (2 : Int32)), .val (.ref ad3), .unset, .unset, .unset, .unset]) d1_33 (rfl) rfl rfl ?_
  refine OwnW.iconst (pc' := 36) (v := (0 : Int32)) d1_35 rfl rfl ?_
  refine OwnW.istore (pc' := 38) (L' := #[.val (.ref o), .val (.ref q0), .val (.ref q1), .val (.int (2 : Int32)), .val (.ref ad3), .val (.int (0 : Int32)), .unset, .unset, .unset]) d1_36 rfl rfl ?_
  refine OwnW.iload (pc' := 40) d1_38 rfl rfl ?_
  refine OwnW.aloadN (pc' := 41) d1_40 rfl (rfl) rfl ?_
  have F4 := (A_g.ext E3)
  obtain ⟨cl5, Ar5, qk5, Sz5, Mn5, Hv5, Gf5⟩ := id F4
  refine OwnW.alen (pc' := 42) (x := (0 : Int32)) d1_41 Ar5 (len_of Sz5 Mn5) rfl ?_
  refine OwnW.icmpY (pc' := 149) d1_42 (flt (by decide)).2.1 (by decide) (by decide) ?_
  refine OwnW.iloadN (pc' := 150) d1_149 rfl rfl ?_
  refine OwnW.iconst (pc' := 151) (v := (2 : Int32)) d1_150 rfl rfl ?_
  refine OwnW.iadd (pc' := 152) d1_151 rfl ?_
  show GoB10 l Z n0 (Q10 Z o q0 q1 kg ks h0) h3 1 3 152 #[.val (.ref o), .val (.ref q0), .val (.ref q1), .val (.int (2 : Int32)), .val (.ref ad3), .val (.int (0 : Int32)), .unset, .unset, .unset] [(.int (4 : Int32))]
  refine OwnW.newP (a0 := a0) (pc' := 154) (cap := 4) (k' := 2) (n' := 7) d1_152 (hw _ (List.mem_of_getElem? (i := 0) rfl)) (by decide) (by decide) (by decide) rfl rfl (by decide) (by decide) rfl ?_
  intro h6 kc6 ad6 g6 E6 A6
  have lt_o_ad6 : @LT.lt Nat _ o ad6 := Nat.lt_of_lt_of_le ((E_o.ext E3)).lt (Nat.le_of_eq g6.symm)
  have lt_q0_ad6 : @LT.lt Nat _ q0 ad6 := Nat.lt_of_lt_of_le (F4).lt (Nat.le_of_eq g6.symm)
  have lt_q1_ad6 : @LT.lt Nat _ q1 ad6 := Nat.lt_of_lt_of_le ((A_s.ext E3)).lt (Nat.le_of_eq g6.symm)
  have lt_ad3_ad6 : @LT.lt Nat _ ad3 ad6 := Nat.lt_of_lt_of_le (V3).lt (Nat.le_of_eq g6.symm)
  have ge_ad6 : n0 ≤ ad6 := Nat.le_trans sz_ad3 (Nat.le_of_eq g6.symm)
  have sz_ad6 : n0 ≤ h6.size := Nat.le_trans sz_ad3 E6.1
  have V6 : Arv Z h6 ad6 kc6 .int (4 : Int32) [(.int (0 : Int32)), (.int (0 : Int32)), (.int (0 : Int32)), (.int (0 : Int32))] (.int (0 : Int32)) := (Arv.new A6 (by decide)).pad (pad_rep [] _ 4)
  refine OwnW.astore (pc' := 156) (L' := #[.val (.ref o), .val (.ref q0), .val (.ref q1), .val (.int (2 : Int32)), .val (.ref ad3), .val (.ref ad6), .unset, .unset, .unset]) d1_154 (rfl) rfl rfl ?_
  refine OwnW.iconst (pc' := 157) (v := (1 : Int32)) d1_156 rfl rfl ?_
  refine OwnW.istore (pc' := 159) (L' := #[.val (.ref o), .val (.ref q0), .val (.ref q1), .val (.int (2 : Int32)), .val (.ref ad3), .val (.ref ad6), .val (.int (1 : Int32)), .unset, .unset]) d1_157 rfl rfl ?_
  refine OwnW.iload (pc' := 161) d1_159 rfl rfl ?_
  refine OwnW.iloadN (pc' := 162) d1_161 rfl rfl ?_
  refine OwnW.icmpN (pc' := 165) d1_162 (flt (by decide)).2.2.1 rfl ?_
  refine OwnW.aload (pc' := 167) d1_165 rfl (rfl) rfl ?_
  refine OwnW.iload (pc' := 169) d1_167 rfl rfl ?_
  refine OwnW.iconst (pc' := 170) (v := (1 : Int32)) d1_169 rfl rfl ?_
  refine OwnW.iadd (pc' := 171) d1_170 rfl ?_
  show GoB10 l Z n0 (Q10 Z o q0 q1 kg ks h0) h6 2 7 171 #[.val (.ref o), .val (.ref q0), .val (.ref q1), .val (.int (2 : Int32)), .val (.ref ad3), .val (.ref ad6), .val (.int (1 : Int32)), .unset, .unset] [(.int (2 : Int32)), (.ref ad6)]
  refine OwnW.aload (pc' := 173) d1_171 rfl (rfl) rfl ?_
  refine OwnW.iload (pc' := 175) d1_173 rfl rfl ?_
  obtain ⟨C7, hC7⟩ : ∃ z : List Int32, z = [(0 : Int32), (0 : Int32), (0 : Int32), (0 : Int32)] := ⟨_, rfl⟩
  have VC7 : Arv Z h6 ad6 kc6 .int (4 : Int32) (C7.map Value.int) (.int (0 : Int32)) := by rw [hC7]; exact V6
  have lC7 : C7.length = 4 := by rw [hC7]; rfl
  obtain ⟨cl8, Ar8, qk8, Sz8, Mn8, Hv8, Gf8⟩ := id VC7
  refine OwnW.iaload (pc' := 176) (v := .int (C7.getD 1 0)) d1_175 Ar8 (inb_of Sz8 ⟨by decide, by decide⟩) (Hv8.at (inb_of Sz8 ⟨by decide, by decide⟩) (own_gd C7 1)) rfl ?_
  show GoB10 l Z n0 (Q10 Z o q0 q1 kg ks h0) h6 2 7 176 #[.val (.ref o), .val (.ref q0), .val (.ref q1), .val (.int (2 : Int32)), .val (.ref ad3), .val (.ref ad6), .val (.int (1 : Int32)), .unset, .unset] [(.int (C7.getD 1 0)), (.int (2 : Int32)), (.ref ad6)]
  refine OwnW.aload (pc' := 178) d1_176 rfl (rfl) rfl ?_
  refine OwnW.iload (pc' := 180) d1_178 rfl rfl ?_
  have F10 := (V3.ext E6)
  obtain ⟨C9, hC9⟩ : ∃ z : List Int32, z = [(0 : Int32), (0 : Int32), (0 : Int32)] := ⟨_, rfl⟩
  have VC9 : Arv Z h6 ad3 kc3 .int (3 : Int32) (C9.map Value.int) (.int (0 : Int32)) := by rw [hC9]; exact F10
  have lC9 : C9.length = 3 := by rw [hC9]; rfl
  obtain ⟨cl11, Ar11, qk11, Sz11, Mn11, Hv11, Gf11⟩ := id VC9
  refine OwnW.iaload (pc' := 181) (v := .int (C9.getD 1 0)) d1_180 Ar11 (inb_of Sz11 ⟨by decide, by decide⟩) (Hv11.at (inb_of Sz11 ⟨by decide, by decide⟩) (own_gd C9 1)) rfl ?_
  show GoB10 l Z n0 (Q10 Z o q0 q1 kg ks h0) h6 2 7 181 #[.val (.ref o), .val (.ref q0), .val (.ref q1), .val (.int (2 : Int32)), .val (.ref ad3), .val (.ref ad6), .val (.int (1 : Int32)), .unset, .unset] [(.int (C9.getD 1 0)), (.int (C7.getD 1 0)), (.int (2 : Int32)), (.ref ad6)]
  refine OwnW.iadd (pc' := 182) d1_181 rfl ?_
  obtain ⟨cl12, Ar12, qk12, Sz12, Mn12, Hv12, Gf12⟩ := id VC7
  refine OwnW.stI (pc' := 183) d1_182 Ar12 (inb_of Sz12 ⟨by decide, by decide⟩) ge_ad6 rfl ?_
  intro h12 W12
  have sz14 : n0 ≤ h12.size := (by rw [W12.size]; exact sz_ad6)
  obtain ⟨C13, hC13⟩ : ∃ z : List Int32, z = (C7.set 2 ((C7.getD 1 0) + (C9.getD 1 0))) := ⟨_, rfl⟩
  have VC13 : Arv Z h12 ad6 kc6 .int (4 : Int32) (C13.map Value.int) (.int (0 : Int32)) := by rw [hC13, List.map_set]; exact Arv.set Ar12 qk12 Sz12 Mn12 Hv12 Gf12 rfl W12 2 rfl (by rw [List.length_map, lC7]; decide)
  have lC13 : C13.length = 4 := by rw [hC13, List.length_set]; exact lC7
  show GoB10 l Z n0 (Q10 Z o q0 q1 kg ks h0) h12 2 7 183 #[.val (.ref o), .val (.ref q0), .val (.ref q1), .val (.int (2 : Int32)), .val (.ref ad3), .val (.ref ad6), .val (.int (1 : Int32)), .unset, .unset] []
  refine OwnW.iinc (pc' := 186) (L' := #[.val (.ref o), .val (.ref q0), .val (.ref q1), .val (.int (2 : Int32)), .val (.ref ad3), .val (.ref ad6), .val (.int (2 : Int32)), .unset, .unset]) (d := (1 : Int32)) d1_183 rfl rfl rfl rfl ?_
  refine OwnW.goto (pc' := 159) d1_186 (by decide) (by decide) ?_
  refine OwnW.iload (pc' := 161) d1_159 rfl rfl ?_
  refine OwnW.iloadN (pc' := 162) d1_161 rfl rfl ?_
  refine OwnW.icmpN (pc' := 165) d1_162 (flt (by decide)).2.2.1 rfl ?_
  refine OwnW.aload (pc' := 167) d1_165 rfl (rfl) rfl ?_
  refine OwnW.iload (pc' := 169) d1_167 rfl rfl ?_
  refine OwnW.iconst (pc' := 170) (v := (1 : Int32)) d1_169 rfl rfl ?_
  refine OwnW.iadd (pc' := 171) d1_170 rfl ?_
  show GoB10 l Z n0 (Q10 Z o q0 q1 kg ks h0) h12 2 7 171 #[.val (.ref o), .val (.ref q0), .val (.ref q1), .val (.int (2 : Int32)), .val (.ref ad3), .val (.ref ad6), .val (.int (2 : Int32)), .unset, .unset] [(.int (3 : Int32)), (.ref ad6)]
  refine OwnW.aload (pc' := 173) d1_171 rfl (rfl) rfl ?_
  refine OwnW.iload (pc' := 175) d1_173 rfl rfl ?_
  obtain ⟨cl15, Ar15, qk15, Sz15, Mn15, Hv15, Gf15⟩ := id VC13
  refine OwnW.iaload (pc' := 176) (v := .int (C13.getD 2 0)) d1_175 Ar15 (inb_of Sz15 ⟨by decide, by decide⟩) (Hv15.at (inb_of Sz15 ⟨by decide, by decide⟩) (own_gd C13 2)) rfl ?_
  show GoB10 l Z n0 (Q10 Z o q0 q1 kg ks h0) h12 2 7 176 #[.val (.ref o), .val (.ref q0), .val (.ref q1), .val (.int (2 : Int32)), .val (.ref ad3), .val (.ref ad6), .val (.int (2 : Int32)), .unset, .unset] [(.int (C13.getD 2 0)), (.int (3 : Int32)), (.ref ad6)]
  refine OwnW.aload (pc' := 178) d1_176 rfl (rfl) rfl ?_
  refine OwnW.iload (pc' := 180) d1_178 rfl rfl ?_
  have F16 := (VC9.other W12 (Nat.ne_of_lt lt_ad3_ad6))
  obtain ⟨cl17, Ar17, qk17, Sz17, Mn17, Hv17, Gf17⟩ := id F16
  refine OwnW.iaload (pc' := 181) (v := .int (C9.getD 2 0)) d1_180 Ar17 (inb_of Sz17 ⟨by decide, by decide⟩) (Hv17.at (inb_of Sz17 ⟨by decide, by decide⟩) (own_gd C9 2)) rfl ?_
  show GoB10 l Z n0 (Q10 Z o q0 q1 kg ks h0) h12 2 7 181 #[.val (.ref o), .val (.ref q0), .val (.ref q1), .val (.int (2 : Int32)), .val (.ref ad3), .val (.ref ad6), .val (.int (2 : Int32)), .unset, .unset] [(.int (C9.getD 2 0)), (.int (C13.getD 2 0)), (.int (3 : Int32)), (.ref ad6)]
  refine OwnW.iadd (pc' := 182) d1_181 rfl ?_
  obtain ⟨cl18, Ar18, qk18, Sz18, Mn18, Hv18, Gf18⟩ := id VC13
  refine OwnW.stI (pc' := 183) d1_182 Ar18 (inb_of Sz18 ⟨by decide, by decide⟩) ge_ad6 rfl ?_
  intro h18 W18
  have sz20 : n0 ≤ h18.size := (by rw [W18.size]; exact sz14)
  obtain ⟨C19, hC19⟩ : ∃ z : List Int32, z = (C13.set 3 ((C13.getD 2 0) + (C9.getD 2 0))) := ⟨_, rfl⟩
  have VC19 : Arv Z h18 ad6 kc6 .int (4 : Int32) (C19.map Value.int) (.int (0 : Int32)) := by rw [hC19, List.map_set]; exact Arv.set Ar18 qk18 Sz18 Mn18 Hv18 Gf18 rfl W18 3 rfl (by rw [List.length_map, lC13]; decide)
  have lC19 : C19.length = 4 := by rw [hC19, List.length_set]; exact lC13
  show GoB10 l Z n0 (Q10 Z o q0 q1 kg ks h0) h18 2 7 183 #[.val (.ref o), .val (.ref q0), .val (.ref q1), .val (.int (2 : Int32)), .val (.ref ad3), .val (.ref ad6), .val (.int (2 : Int32)), .unset, .unset] []
  refine OwnW.iinc (pc' := 186) (L' := #[.val (.ref o), .val (.ref q0), .val (.ref q1), .val (.int (2 : Int32)), .val (.ref ad3), .val (.ref ad6), .val (.int (3 : Int32)), .unset, .unset]) (d := (1 : Int32)) d1_183 rfl rfl rfl rfl ?_
  refine OwnW.goto (pc' := 159) d1_186 (by decide) (by decide) ?_
  refine OwnW.iload (pc' := 161) d1_159 rfl rfl ?_
  refine OwnW.iloadN (pc' := 162) d1_161 rfl rfl ?_
  refine OwnW.icmpY (pc' := 189) d1_162 (tlt (by decide)).2.2.1 (by decide) (by decide) ?_
  refine OwnW.aload (pc' := 191) d1_189 rfl (rfl) rfl ?_
  refine OwnW.iloadN (pc' := 192) d1_191 rfl rfl ?_
  refine OwnW.iconst (pc' := 193) (v := (1 : Int32)) d1_192 rfl rfl ?_
  refine OwnW.iadd (pc' := 194) d1_193 rfl ?_
  show GoB10 l Z n0 (Q10 Z o q0 q1 kg ks h0) h18 2 7 194 #[.val (.ref o), .val (.ref q0), .val (.ref q1), .val (.int (2 : Int32)), .val (.ref ad3), .val (.ref ad6), .val (.int (3 : Int32)), .unset, .unset] [(.int (3 : Int32)), (.ref ad6)]
  obtain ⟨cl21, Ar21, qk21, Sz21, Mn21, Hv21, Gf21⟩ := id VC19
  refine OwnW.iaload (pc' := 195) (v := .int (C19.getD 3 0)) d1_194 Ar21 (inb_of Sz21 ⟨by decide, by decide⟩) (Hv21.at (inb_of Sz21 ⟨by decide, by decide⟩) (own_gd C19 3)) rfl ?_
  show GoB10 l Z n0 (Q10 Z o q0 q1 kg ks h0) h18 2 7 195 #[.val (.ref o), .val (.ref q0), .val (.ref q1), .val (.int (2 : Int32)), .val (.ref ad3), .val (.ref ad6), .val (.int (3 : Int32)), .unset, .unset] [(.int (C19.getD 3 0))]
  obtain ⟨tt, htt⟩ : ∃ z, z = (C19.getD 3 0) := ⟨_, rfl⟩
  rw [← htt]
  show GoB10 l Z n0 (Q10 Z o q0 q1 kg ks h0) h18 2 7 195 #[.val (.ref o), .val (.ref q0), .val (.ref q1), .val (.int (2 : Int32)), .val (.ref ad3), .val (.ref ad6), .val (.int (3 : Int32)), .unset, .unset] [(.int tt)]
  have ht2 := own_tt0 hC7 hC9 hC13 hC19 htt
  refine OwnW.newP (a0 := a0) (pc' := 197) (cap := 0) (k' := 3) (n' := 7) d1_195 (hw _ (List.mem_of_getElem? (i := 0) rfl)) ht2.1 ht2.2 (by decide) rfl rfl (by decide) (by decide) rfl ?_
  intro hm km am gm Em Am
  have lt_o_am : @LT.lt Nat _ o am := Nat.lt_of_lt_of_le (((((E_o.ext E3).ext E6).wr W12).wr W18)).lt (Nat.le_of_eq gm.symm)
  have lt_q0_am : @LT.lt Nat _ q0 am := Nat.lt_of_lt_of_le ((((F4.ext E6).other W12 (Nat.ne_of_lt lt_q0_ad6)).other W18 (Nat.ne_of_lt lt_q0_ad6))).lt (Nat.le_of_eq gm.symm)
  have lt_q1_am : @LT.lt Nat _ q1 am := Nat.lt_of_lt_of_le (((((A_s.ext E3).ext E6).other W12 (Nat.ne_of_lt lt_q1_ad6)).other W18 (Nat.ne_of_lt lt_q1_ad6))).lt (Nat.le_of_eq gm.symm)
  have lt_ad3_am : @LT.lt Nat _ ad3 am := Nat.lt_of_lt_of_le ((F16.other W18 (Nat.ne_of_lt lt_ad3_ad6))).lt (Nat.le_of_eq gm.symm)
  have lt_ad6_am : @LT.lt Nat _ ad6 am := Nat.lt_of_lt_of_le (VC19).lt (Nat.le_of_eq gm.symm)
  have ge_am : n0 ≤ am := Nat.le_trans sz20 (Nat.le_of_eq gm.symm)
  have sz_am : n0 ≤ hm.size := Nat.le_trans sz20 Em.1
  have Ym : Wk Z hm am tt := ⟨_, Am, sz_new _ _ _⟩
  show GoB10 l Z n0 (Q10 Z o q0 q1 kg ks h0) hm 3 7 197 #[.val (.ref o), .val (.ref q0), .val (.ref q1), .val (.int (2 : Int32)), .val (.ref ad3), .val (.ref ad6), .val (.int (3 : Int32)), .unset, .unset] [(.ref am)]
  refine OwnW.astore (pc' := 199) (L' := #[.val (.ref o), .val (.ref q0), .val (.ref q1), .val (.int (2 : Int32)), .val (.ref ad3), .val (.ref ad6), .val (.ref am), .unset, .unset]) d1_197 (rfl) rfl rfl ?_
  refine OwnW.aload (pc' := 201) d1_199 rfl (rfl) rfl ?_
  refine OwnW.iloadN (pc' := 202) d1_201 rfl rfl ?_
  refine OwnW.iconst (pc' := 203) (v := (1 : Int32)) d1_202 rfl rfl ?_
  refine OwnW.iadd (pc' := 204) d1_203 rfl ?_
  show GoB10 l Z n0 (Q10 Z o q0 q1 kg ks h0) hm 3 7 204 #[.val (.ref o), .val (.ref q0), .val (.ref q1), .val (.int (2 : Int32)), .val (.ref ad3), .val (.ref ad6), .val (.ref am), .unset, .unset] [(.int (3 : Int32)), (.ref ad6)]
  have F22 := (VC19.ext Em)
  refine OwnW.callS (a0 := a0) (pc' := 207) (W := 0) (k' := 4) (n' := 10) (argsL := [(.ref ad6), (.int (3 : Int32))]) (rest := []) d1_204 (hw _ (List.mem_of_getElem? (i := 11) rfl)) (hw _ (List.mem_of_getElem? (i := 12) rfl)) (hw _ (List.mem_of_getElem? (i := 13) rfl)) (hw _ (List.mem_of_getElem? (i := 14) rfl)) (by decide) (rm3 l Z a0 hw ad6 kc6 C19 hm n0 sz_am F22) (by decide) (by decide) rfl rfl (by decide) (by decide) rfl pd_285bII295bI rfl rfl rfl (Nat.le_of_ble_eq_true rfl) rfl ?_
  rintro h23 v23 ⟨ad23_0, kc23_0, rfl, K23, gl23_0, Fc23_0⟩
  have lt_o_ad23_0 : @LT.lt Nat _ o ad23_0 := Nat.lt_of_lt_of_le ((((((E_o.ext E3).ext E6).wr W12).wr W18).ext Em)).lt gl23_0
  have lt_q0_ad23_0 : @LT.lt Nat _ q0 ad23_0 := Nat.lt_of_lt_of_le (((((F4.ext E6).other W12 (Nat.ne_of_lt lt_q0_ad6)).other W18 (Nat.ne_of_lt lt_q0_ad6)).ext Em)).lt gl23_0
  have lt_q1_ad23_0 : @LT.lt Nat _ q1 ad23_0 := Nat.lt_of_lt_of_le ((((((A_s.ext E3).ext E6).other W12 (Nat.ne_of_lt lt_q1_ad6)).other W18 (Nat.ne_of_lt lt_q1_ad6)).ext Em)).lt gl23_0
  have lt_ad3_ad23_0 : @LT.lt Nat _ ad3 ad23_0 := Nat.lt_of_lt_of_le (((F16.other W18 (Nat.ne_of_lt lt_ad3_ad6)).ext Em)).lt gl23_0
  have lt_ad6_ad23_0 : @LT.lt Nat _ ad6 ad23_0 := Nat.lt_of_lt_of_le (F22).lt gl23_0
  have lt_am_ad23_0 : @LT.lt Nat _ am ad23_0 := Nat.lt_of_lt_of_le (Ym).lt gl23_0
  have ge_ad23_0 : n0 ≤ ad23_0 := Nat.le_trans sz_am gl23_0
  have sz24 : n0 ≤ h23.size := Nat.le_trans sz_am K23.1
  show GoB10 l Z n0 (Q10 Z o q0 q1 kg ks h0) h23 4 10 207 #[.val (.ref o), .val (.ref q0), .val (.ref q1), .val (.int (2 : Int32)), .val (.ref ad3), .val (.ref ad6), .val (.ref am), .unset, .unset] [(.ref ad23_0)]
  refine OwnW.astore (pc' := 209) (L' := #[.val (.ref o), .val (.ref q0), .val (.ref q1), .val (.int (2 : Int32)), .val (.ref ad3), .val (.ref ad6), .val (.ref am), .val (.ref ad23_0), .unset]) d1_207 (rfl) rfl rfl ?_
  refine OwnW.iconst (pc' := 210) (v := (0 : Int32)) d1_209 rfl rfl ?_
  refine OwnW.istore (pc' := 212) (L' := #[.val (.ref o), .val (.ref q0), .val (.ref q1), .val (.int (2 : Int32)), .val (.ref ad3), .val (.ref ad6), .val (.ref am), .val (.ref ad23_0), .val (.int (0 : Int32))]) d1_210 rfl rfl ?_
  refine OwnW.iload (pc' := 214) d1_212 rfl rfl ?_
  refine OwnW.aloadN (pc' := 215) d1_214 rfl (rfl) rfl ?_
  have F25 := (((((F4.ext E6).other W12 (Nat.ne_of_lt lt_q0_ad6)).other W18 (Nat.ne_of_lt lt_q0_ad6)).ext Em).keep K23 nin0)
  obtain ⟨cl26, Ar26, qk26, Sz26, Mn26, Hv26, Gf26⟩ := id F25
  refine OwnW.alen (pc' := 216) (x := (0 : Int32)) d1_215 Ar26 (len_of Sz26 Mn26) rfl ?_
  refine OwnW.icmpY (pc' := 249) d1_216 (flt (by decide)).2.1 (by decide) (by decide) ?_
  refine OwnW.aloadN (pc' := 250) d1_249 rfl (rfl) rfl ?_
  refine OwnW.aloadN (pc' := 251) d1_250 rfl (rfl) rfl ?_
  have F28 := ((((((F_groups.ext E3).ext E6).other W12 (Or.inl (Nat.ne_of_lt lt_o_ad6))).other W18 (Or.inl (Nat.ne_of_lt lt_o_ad6))).ext Em).keep K23 nin0)
  have F29 := ((((((E_o.ext E3).ext E6).wr W12).wr W18).ext Em).keep K23)
  refine OwnW.putF (a0 := a0) (pc' := 254) d1_251 (host := "") (Or.inl (hw _ (List.mem_of_getElem? (i := 23) rfl))) Via.refl F28 F29 (Or.inr ⟨(hw _ (List.mem_of_getElem? (i := 24) rfl)), rfl, rfl⟩) (hw _ (List.mem_of_getElem? (i := 3) rfl)) (ty := (.array .int)) (by decide) rfl rfl g_o rfl ?_
  intro h27 W27
  have sz30 : n0 ≤ h27.size := (by rw [W27.size]; exact sz24)
  have F31 := F28.same W27
  refine OwnW.aloadN (pc' := 255) d1_254 rfl (rfl) rfl ?_
  refine OwnW.aloadN (pc' := 256) d1_255 rfl (rfl) rfl ?_
  have F33 := (((((((F_shares.ext E3).ext E6).other W12 (Or.inl (Nat.ne_of_lt lt_o_ad6))).other W18 (Or.inl (Nat.ne_of_lt lt_o_ad6))).ext Em).keep K23 nin0).other W27 (Or.inr (slot_ne (a0 := a0) (C := "com/example/sieve_for_links/sieveforlinks/VirtualLinks") (Or.inr (hw _ (List.mem_of_getElem? (i := 26) rfl))) (Or.inr (hw _ (List.mem_of_getElem? (i := 24) rfl))) (by decide) (t := (.array .double)) (t' := (.array .int)) (by decide) (by decide))))
  have F34 := (F29.wr W27)
  refine OwnW.putF (a0 := a0) (pc' := 259) d1_256 (host := "") (Or.inl (hw _ (List.mem_of_getElem? (i := 25) rfl))) Via.refl F33 F34 (Or.inr ⟨(hw _ (List.mem_of_getElem? (i := 26) rfl)), rfl, rfl⟩) (hw _ (List.mem_of_getElem? (i := 3) rfl)) (ty := (.array .double)) (by decide) rfl rfl g_o rfl ?_
  intro h32 W32
  have sz35 : n0 ≤ h32.size := (by rw [W32.size]; exact sz30)
  have F36 := F33.same W32
  refine OwnW.aloadN (pc' := 260) d1_259 rfl (rfl) rfl ?_
  refine OwnW.aload (pc' := 262) d1_260 rfl (rfl) rfl ?_
  have F38 := ((((((((F_members.ext E3).ext E6).other W12 (Or.inl (Nat.ne_of_lt lt_o_ad6))).other W18 (Or.inl (Nat.ne_of_lt lt_o_ad6))).ext Em).keep K23 nin0).other W27 (Or.inr (slot_ne (a0 := a0) (C := "com/example/sieve_for_links/sieveforlinks/VirtualLinks") (Or.inr (hw _ (List.mem_of_getElem? (i := 28) rfl))) (Or.inr (hw _ (List.mem_of_getElem? (i := 24) rfl))) (by decide) (t := (.array .int)) (t' := (.array .int)) (by decide) (by decide)))).other W32 (Or.inr (slot_ne (a0 := a0) (C := "com/example/sieve_for_links/sieveforlinks/VirtualLinks") (Or.inr (hw _ (List.mem_of_getElem? (i := 28) rfl))) (Or.inr (hw _ (List.mem_of_getElem? (i := 26) rfl))) (by decide) (t := (.array .int)) (t' := (.array .double)) (by decide) (by decide))))
  have F39 := (F34.wr W32)
  refine OwnW.putF (a0 := a0) (pc' := 265) d1_262 (host := "") (Or.inl (hw _ (List.mem_of_getElem? (i := 27) rfl))) Via.refl F38 F39 (Or.inr ⟨(hw _ (List.mem_of_getElem? (i := 28) rfl)), rfl, rfl⟩) (hw _ (List.mem_of_getElem? (i := 3) rfl)) (ty := (.array .int)) (by decide) rfl rfl g_o rfl ?_
  intro h37 W37
  have sz40 : n0 ≤ h37.size := (by rw [W37.size]; exact sz35)
  have F41 := F38.same W37
  refine OwnW.aloadN (pc' := 266) d1_265 rfl (rfl) rfl ?_
  refine OwnW.aload (pc' := 268) d1_266 rfl (rfl) rfl ?_
  have F43 := (((((((((F_memberStarts.ext E3).ext E6).other W12 (Or.inl (Nat.ne_of_lt lt_o_ad6))).other W18 (Or.inl (Nat.ne_of_lt lt_o_ad6))).ext Em).keep K23 nin0).other W27 (Or.inr (slot_ne (a0 := a0) (C := "com/example/sieve_for_links/sieveforlinks/VirtualLinks") (Or.inr (hw _ (List.mem_of_getElem? (i := 30) rfl))) (Or.inr (hw _ (List.mem_of_getElem? (i := 24) rfl))) (by decide) (t := (.array .int)) (t' := (.array .int)) (by decide) (by decide)))).other W32 (Or.inr (slot_ne (a0 := a0) (C := "com/example/sieve_for_links/sieveforlinks/VirtualLinks") (Or.inr (hw _ (List.mem_of_getElem? (i := 30) rfl))) (Or.inr (hw _ (List.mem_of_getElem? (i := 26) rfl))) (by decide) (t := (.array .int)) (t' := (.array .double)) (by decide) (by decide)))).other W37 (Or.inr (slot_ne (a0 := a0) (C := "com/example/sieve_for_links/sieveforlinks/VirtualLinks") (Or.inr (hw _ (List.mem_of_getElem? (i := 30) rfl))) (Or.inr (hw _ (List.mem_of_getElem? (i := 28) rfl))) (by decide) (t := (.array .int)) (t' := (.array .int)) (by decide) (by decide))))
  have F44 := (F39.wr W37)
  refine OwnW.putF (a0 := a0) (pc' := 271) d1_268 (host := "") (Or.inl (hw _ (List.mem_of_getElem? (i := 29) rfl))) Via.refl F43 F44 (Or.inr ⟨(hw _ (List.mem_of_getElem? (i := 30) rfl)), rfl, rfl⟩) (hw _ (List.mem_of_getElem? (i := 3) rfl)) (ty := (.array .int)) (by decide) rfl rfl g_o rfl ?_
  intro h42 W42
  have sz45 : n0 ≤ h42.size := (by rw [W42.size]; exact sz40)
  have F46 := F43.same W42
  exact OwnW.ret0 d1_271 rfl (by decide) (by decide) (⟨rfl, (((((((((((Keep.refl h0 [o]).ext E3).ext E6).wr W12 (Or.inr (Nat.le_trans (Nat.le_trans (Nat.le_refl _) E3.1) (Nat.le_of_eq g6.symm)))).wr W18 (Or.inr (Nat.le_trans (Nat.le_trans (Nat.le_refl _) E3.1) (Nat.le_of_eq g6.symm)))).ext Em).trans K23 all0).wr W27 (Or.inl (List.mem_of_getElem? (i := 0) rfl))).wr W32 (Or.inl (List.mem_of_getElem? (i := 0) rfl))).wr W37 (Or.inl (List.mem_of_getElem? (i := 0) rfl))).wr W42 (Or.inl (List.mem_of_getElem? (i := 0) rfl))), (F44.wr W42), (((F31.other W32 (Or.inr (slot_ne (a0 := a0) (C := "com/example/sieve_for_links/sieveforlinks/VirtualLinks") (Or.inr (hw _ (List.mem_of_getElem? (i := 24) rfl))) (Or.inr (hw _ (List.mem_of_getElem? (i := 26) rfl))) (by decide) (t := (.array .int)) (t' := (.array .double)) (by decide) (by decide)))).other W37 (Or.inr (slot_ne (a0 := a0) (C := "com/example/sieve_for_links/sieveforlinks/VirtualLinks") (Or.inr (hw _ (List.mem_of_getElem? (i := 24) rfl))) (Or.inr (hw _ (List.mem_of_getElem? (i := 28) rfl))) (by decide) (t := (.array .int)) (t' := (.array .int)) (by decide) (by decide)))).other W42 (Or.inr (slot_ne (a0 := a0) (C := "com/example/sieve_for_links/sieveforlinks/VirtualLinks") (Or.inr (hw _ (List.mem_of_getElem? (i := 24) rfl))) (Or.inr (hw _ (List.mem_of_getElem? (i := 30) rfl))) (by decide) (t := (.array .int)) (t' := (.array .int)) (by decide) (by decide))))⟩)
def Q11 (Z : State) (o : Addr) (q0 : Addr) (q1 : Addr) (kg : ClassId) (ks : ClassId) (g0 : Int32) (s0 : UInt64) (h0 : Heap) (v : Option Value) (h : Heap) : Prop := v = none ∧ Keep h0 h [o] ∧ Exa Z h o "com/example/sieve_for_links/sieveforlinks/VirtualLinks" ∧ Fld Z h o "com/example/sieve_for_links/sieveforlinks/VirtualLinks" "groups" "[I" (.ref q0)
abbrev GoB11 (l : Launch) (Z : State) (n0 : Nat) (Q : Option Value → Heap → Prop) := Go l Z ({ frames := 2, cells := 4, slots := 11, locals := 32 } : Room) (⟨"com/example/sieve_for_links/sieveforlinks/VirtualLinks", "<init>", "([I[DI)V"⟩ : MethodName) prog_33_method_1_code 9 none n0 Q
theorem ef11 (m : MethodId) (o : Addr) (q0 : Addr) (q1 : Addr) : entryFrame m #[(.ref o), (.ref q0), (.ref q1), (.int (2 : Int32))] 9 = mkF m 0 #[.val (.ref o), .val (.ref q0), .val (.ref q1), .val (.int (2 : Int32)), .unset, .unset, .unset, .unset, .unset] [] := by first | (simp [entryFrame, mkF, argsToLocals, Value.category]; done) | rfl
set_option maxRecDepth 65536 in
set_option maxHeartbeats 40000000 in
theorem rm11 (l : Launch) (Z : State) (a0 : Array Value) (hw : ∀ d ∈ tables_1, d.before a0 Z = true) (o : Addr) (q0 : Addr) (q1 : Addr) (kg : ClassId) (ks : ClassId) (g0 : Int32) (s0 : UInt64) (h0 : Heap) (n0 : Nat) (Z0 : n0 ≤ h0.size) (g_o : n0 ≤ o) (E_o : Exa Z h0 o "com/example/sieve_for_links/sieveforlinks/VirtualLinks") (F_groups : Fld Z h0 o "com/example/sieve_for_links/sieveforlinks/VirtualLinks" "groups" "[I" .null) (F_shares : Fld Z h0 o "com/example/sieve_for_links/sieveforlinks/VirtualLinks" "shares" "[D" .null) (F_members : Fld Z h0 o "com/example/sieve_for_links/sieveforlinks/VirtualLinks" "members" "[I" .null) (F_memberStarts : Fld Z h0 o "com/example/sieve_for_links/sieveforlinks/VirtualLinks" "memberStarts" "[I" .null) (A_g : Arv Z h0 q0 kg .int (1 : Int32) [(.int g0)] (.int (0 : Int32))) (A_s : Arv Z h0 q1 ks .double (1 : Int32) [(.double s0)] (.double (0 : UInt64))) (hg0 : own_G g0) (hs0 : own_S g0 s0) :
    Con l Z ({ frames := 2, cells := 4, slots := 11, locals := 32 } : Room) (⟨"com/example/sieve_for_links/sieveforlinks/VirtualLinks", "<init>", "([I[DI)V"⟩ : MethodName) prog_33_method_1_code 9 none n0 #[(.ref o), (.ref q0), (.ref q1), (.int (2 : Int32))] h0 (Q11 Z o q0 q1 kg ks g0 s0 h0) := by
  refine OwnW.Con.of (by first | decide +kernel | exact plainFor_of_name (by simp [plainName, overriddenIn])) (fun m => ef11 m o q0 q1) ?_
  show GoB11 l Z n0 (Q11 Z o q0 q1 kg ks g0 s0 h0) h0 0 0 0 #[.val (.ref o), .val (.ref q0), .val (.ref q1), .val (.int (2 : Int32)), .unset, .unset, .unset, .unset, .unset] []
  refine OwnW.aloadN (pc' := 1) d1_0 rfl (rfl) rfl ?_
  refine OwnW.initO (a0 := a0) (pc' := 4) (W := 0) d1_1 (hw _ (List.mem_of_getElem? (i := 8) rfl)) (hw _ (List.mem_of_getElem? (i := 9) rfl)) (hw _ (List.mem_of_getElem? (i := 10) rfl)) rfl (by decide) (Nat.le_of_ble_eq_true rfl) (by decide) rfl ?_
  refine OwnW.aloadN (pc' := 5) d1_4 rfl (rfl) rfl ?_
  obtain ⟨cl1, Ar1, qk1, Sz1, Mn1, Hv1, Gf1⟩ := id A_g
  refine OwnW.alen (pc' := 6) (x := (1 : Int32)) d1_5 Ar1 (len_of Sz1 Mn1) rfl ?_
  refine OwnW.aloadN (pc' := 7) d1_6 rfl (rfl) rfl ?_
  obtain ⟨cl2, Ar2, qk2, Sz2, Mn2, Hv2, Gf2⟩ := id A_s
  refine OwnW.alen (pc' := 8) (x := (1 : Int32)) d1_7 Ar2 (len_of Sz2 Mn2) rfl ?_
  refine OwnW.icmpY (pc' := 28) d1_8 (teq (by decide)).1 (by decide) (by decide) ?_
  refine OwnW.iloadN (pc' := 29) d1_28 rfl rfl ?_
  refine OwnW.iconst (pc' := 30) (v := (1 : Int32)) d1_29 rfl rfl ?_
  refine OwnW.iadd (pc' := 31) d1_30 rfl ?_
  show GoB11 l Z n0 (Q11 Z o q0 q1 kg ks g0 s0 h0) h0 0 0 31 #[.val (.ref o), .val (.ref q0), .val (.ref q1), .val (.int (2 : Int32)), .unset, .unset, .unset, .unset, .unset] [(.int (3 : Int32))]
  refine OwnW.newP (a0 := a0) (pc' := 33) (cap := 3) (k' := 1) (n' := 3) d1_31 (hw _ (List.mem_of_getElem? (i := 0) rfl)) (by decide) (by decide) (by decide) rfl rfl (by decide) (by decide) rfl ?_
  intro h3 kc3 ad3 g3 E3 A3
  have lt_o_ad3 : @LT.lt Nat _ o ad3 := Nat.lt_of_lt_of_le (E_o).lt (Nat.le_of_eq g3.symm)
  have lt_q0_ad3 : @LT.lt Nat _ q0 ad3 := Nat.lt_of_lt_of_le (A_g).lt (Nat.le_of_eq g3.symm)
  have lt_q1_ad3 : @LT.lt Nat _ q1 ad3 := Nat.lt_of_lt_of_le (A_s).lt (Nat.le_of_eq g3.symm)
  have ge_ad3 : n0 ≤ ad3 := Nat.le_trans Z0 (Nat.le_of_eq g3.symm)
  have sz_ad3 : n0 ≤ h3.size := Nat.le_trans Z0 E3.1
  have V3 : Arv Z h3 ad3 kc3 .int (3 : Int32) [(.int (0 : Int32)), (.int (0 : Int32)), (.int (0 : Int32))] (.int (0 : Int32)) := (Arv.new A3 (by decide)).pad (pad_rep [] _ 3)
  refine OwnW.astore (pc' := 35) (L' := #[.val (.ref o), .val (.ref q0), .val (.ref q1), .val (.int (2 : Int32)), .val (.ref ad3), .unset, .unset, .unset, .unset]) d1_33 (rfl) rfl rfl ?_
  refine OwnW.iconst (pc' := 36) (v := (0 : Int32)) d1_35 rfl rfl ?_
  refine OwnW.istore (pc' := 38) (L' := #[.val (.ref o), .val (.ref q0), .val (.ref q1), .val (.int (2 : Int32)), .val (.ref ad3), .val (.int (0 : Int32)), .unset, .unset, .unset]) d1_36 rfl rfl ?_
  refine OwnW.iload (pc' := 40) d1_38 rfl rfl ?_
  refine OwnW.aloadN (pc' := 41) d1_40 rfl (rfl) rfl ?_
  have F4 := (A_g.ext E3)
  obtain ⟨cl5, Ar5, qk5, Sz5, Mn5, Hv5, Gf5⟩ := id F4
  refine OwnW.alen (pc' := 42) (x := (1 : Int32)) d1_41 Ar5 (len_of Sz5 Mn5) rfl ?_
  refine OwnW.icmpN (pc' := 45) d1_42 (tlt (by decide)).2.1 rfl ?_
  refine OwnW.aloadN (pc' := 46) d1_45 rfl (rfl) rfl ?_
  refine OwnW.iload (pc' := 48) d1_46 rfl rfl ?_
  obtain ⟨cl6, Ar6, qk6, Sz6, Mn6, Hv6, Gf6⟩ := id F4
  refine OwnW.iaload (pc' := 49) (v := (.int g0)) d1_48 Ar6 (inb_of Sz6 ⟨by decide, by decide⟩) (Hv6.at (inb_of Sz6 ⟨by decide, by decide⟩) rfl) rfl ?_
  refine OwnW.ifcN (pc' := 52) d1_49 ((if0 _ _).trans (flt (own_gn hg0).1).1) rfl ?_
  refine OwnW.aloadN (pc' := 53) d1_52 rfl (rfl) rfl ?_
  refine OwnW.iload (pc' := 55) d1_53 rfl rfl ?_
  obtain ⟨cl7, Ar7, qk7, Sz7, Mn7, Hv7, Gf7⟩ := id F4
  refine OwnW.iaload (pc' := 56) (v := (.int g0)) d1_55 Ar7 (inb_of Sz7 ⟨by decide, by decide⟩) (Hv7.at (inb_of Sz7 ⟨by decide, by decide⟩) rfl) rfl ?_
  refine OwnW.iloadN (pc' := 57) d1_56 rfl rfl ?_
  refine OwnW.icmpY (pc' := 79) d1_57 (flt (own_gn hg0).2).2.2.2 (by decide) (by decide) ?_
  refine OwnW.aloadN (pc' := 80) d1_79 rfl (rfl) rfl ?_
  refine OwnW.iload (pc' := 82) d1_80 rfl rfl ?_
  have F8 := (A_s.ext E3)
  obtain ⟨cl9, Ar9, qk9, Sz9, Mn9, Hv9, Gf9⟩ := id F8
  refine OwnW.daload (pc' := 83) (v := (.double s0)) d1_82 Ar9 (inb_of Sz9 ⟨by decide, by decide⟩) (Hv9.at (inb_of Sz9 ⟨by decide, by decide⟩) rfl) rfl ?_
  refine OwnW.dconst0 (pc' := 84) (v := (0 : UInt64)) d1_83 (by decide +kernel) rfl ?_
  refine OwnW.dcmp (pc' := 85) d1_84 rfl rfl ?_
  refine OwnW.ifcN (pc' := 88) d1_85 ((if0 _ _).trans (flt (hs0).1).1) rfl ?_
  refine OwnW.aloadN (pc' := 89) d1_88 rfl (rfl) rfl ?_
  refine OwnW.iload (pc' := 91) d1_89 rfl rfl ?_
  obtain ⟨cl10, Ar10, qk10, Sz10, Mn10, Hv10, Gf10⟩ := id F8
  refine OwnW.daload (pc' := 92) (v := (.double s0)) d1_91 Ar10 (inb_of Sz10 ⟨by decide, by decide⟩) (Hv10.at (inb_of Sz10 ⟨by decide, by decide⟩) rfl) rfl ?_
  refine OwnW.dconst1 (pc' := 93) (v := (4607182418800017408 : UInt64)) d1_92 (by decide +kernel) rfl ?_
  refine OwnW.dcmp (pc' := 94) d1_93 rfl rfl ?_
  refine OwnW.ifcN (pc' := 97) d1_94 ((if0 _ _).trans (flt (hs0).2.1).2.2.1) rfl ?_
  refine OwnW.aloadN (pc' := 98) d1_97 rfl (rfl) rfl ?_
  refine OwnW.iload (pc' := 100) d1_98 rfl rfl ?_
  obtain ⟨cl11, Ar11, qk11, Sz11, Mn11, Hv11, Gf11⟩ := id F4
  refine OwnW.iaload (pc' := 101) (v := (.int g0)) d1_100 Ar11 (inb_of Sz11 ⟨by decide, by decide⟩) (Hv11.at (inb_of Sz11 ⟨by decide, by decide⟩) rfl) rfl ?_
  suffices J101_132 : GoB11 l Z n0 (Q11 Z o q0 q1 kg ks g0 s0 h0) h3 1 3 132 #[.val (.ref o), .val (.ref q0), .val (.ref q1), .val (.int (2 : Int32)), .val (.ref ad3), .val (.int (0 : Int32)), .unset, .unset, .unset] [] by
    by_cases hc101 : g0 = (0 : Int32)
    ·
      refine OwnW.ifcN (pc' := 104) d1_101 ((if0 _ _).trans (teq hc101).2) rfl ?_
      refine OwnW.aloadN (pc' := 105) d1_104 rfl (rfl) rfl ?_
      refine OwnW.iload (pc' := 107) d1_105 rfl rfl ?_
      obtain ⟨cl13, Ar13, qk13, Sz13, Mn13, Hv13, Gf13⟩ := id F8
      refine OwnW.daload (pc' := 108) (v := (.double s0)) d1_107 Ar13 (inb_of Sz13 ⟨by decide, by decide⟩) (Hv13.at (inb_of Sz13 ⟨by decide, by decide⟩) rfl) rfl ?_
      refine OwnW.dconst0 (pc' := 109) (v := (0 : UInt64)) d1_108 (by decide +kernel) rfl ?_
      refine OwnW.dcmp (pc' := 110) d1_109 rfl rfl ?_
      refine OwnW.ifcY (pc' := 132) d1_110 ((if0 _ _).trans (teq ((hs0).2.2 hc101)).1) (by decide) (by decide) ?_
      exact J101_132
    ·
      refine OwnW.ifcY (pc' := 132) d1_101 ((if0 _ _).trans (feq hc101).2) (by decide) (by decide) ?_
      exact J101_132
  refine OwnW.aload (pc' := 134) d1_132 rfl (rfl) rfl ?_
  refine OwnW.aloadN (pc' := 135) d1_134 rfl (rfl) rfl ?_
  refine OwnW.iload (pc' := 137) d1_135 rfl rfl ?_
  obtain ⟨cl14, Ar14, qk14, Sz14, Mn14, Hv14, Gf14⟩ := id F4
  refine OwnW.iaload (pc' := 138) (v := (.int g0)) d1_137 Ar14 (inb_of Sz14 ⟨by decide, by decide⟩) (Hv14.at (inb_of Sz14 ⟨by decide, by decide⟩) rfl) rfl ?_
  refine OwnW.dup2 (pc' := 139) d1_138 rfl rfl rfl ?_
  obtain ⟨C15, hC15⟩ : ∃ z : List Int32, z = [(0 : Int32), (0 : Int32), (0 : Int32)] := ⟨_, rfl⟩
  have VC15 : Arv Z h3 ad3 kc3 .int (3 : Int32) (C15.map Value.int) (.int (0 : Int32)) := by rw [hC15]; exact V3
  have lC15 : C15.length = 3 := by rw [hC15]; rfl
  obtain ⟨cl16, Ar16, qk16, Sz16, Mn16, Hv16, Gf16⟩ := id VC15
  refine OwnW.iaload (pc' := 140) (v := .int (C15.getD g0.toNatClampNeg 0)) d1_139 Ar16 (inb_of Sz16 (own_bd hg0)) (Hv16.at (inb_of Sz16 (own_bd hg0)) (own_gd C15 g0.toNatClampNeg)) rfl ?_
  show GoB11 l Z n0 (Q11 Z o q0 q1 kg ks g0 s0 h0) h3 1 3 140 #[.val (.ref o), .val (.ref q0), .val (.ref q1), .val (.int (2 : Int32)), .val (.ref ad3), .val (.int (0 : Int32)), .unset, .unset, .unset] [(.int (C15.getD g0.toNatClampNeg 0)), (.int g0), (.ref ad3)]
  refine OwnW.iconst (pc' := 141) (v := (1 : Int32)) d1_140 rfl rfl ?_
  refine OwnW.iadd (pc' := 142) d1_141 rfl ?_
  obtain ⟨cl17, Ar17, qk17, Sz17, Mn17, Hv17, Gf17⟩ := id VC15
  refine OwnW.stI (pc' := 143) d1_142 Ar17 (inb_of Sz17 (own_bd hg0)) ge_ad3 rfl ?_
  intro h17 W17
  have sz19 : n0 ≤ h17.size := (by rw [W17.size]; exact sz_ad3)
  obtain ⟨C18, hC18⟩ : ∃ z : List Int32, z = (C15.set g0.toNatClampNeg ((C15.getD g0.toNatClampNeg 0) + (1 : Int32))) := ⟨_, rfl⟩
  have VC18 : Arv Z h17 ad3 kc3 .int (3 : Int32) (C18.map Value.int) (.int (0 : Int32)) := by rw [hC18, List.map_set]; exact Arv.set Ar17 qk17 Sz17 Mn17 Hv17 Gf17 rfl W17 g0.toNatClampNeg rfl (own_ln (z := (3 : Int32)) lC15 (own_bd hg0))
  have lC18 : C18.length = 3 := by rw [hC18, List.length_set]; exact lC15
  show GoB11 l Z n0 (Q11 Z o q0 q1 kg ks g0 s0 h0) h17 1 3 143 #[.val (.ref o), .val (.ref q0), .val (.ref q1), .val (.int (2 : Int32)), .val (.ref ad3), .val (.int (0 : Int32)), .unset, .unset, .unset] []
  refine OwnW.iinc (pc' := 146) (L' := #[.val (.ref o), .val (.ref q0), .val (.ref q1), .val (.int (2 : Int32)), .val (.ref ad3), .val (.int (1 : Int32)), .unset, .unset, .unset]) (d := (1 : Int32)) d1_143 rfl rfl rfl rfl ?_
  refine OwnW.goto (pc' := 38) d1_146 (by decide) (by decide) ?_
  refine OwnW.iload (pc' := 40) d1_38 rfl rfl ?_
  refine OwnW.aloadN (pc' := 41) d1_40 rfl (rfl) rfl ?_
  have F20 := (F4.other W17 (Nat.ne_of_lt lt_q0_ad3))
  obtain ⟨cl21, Ar21, qk21, Sz21, Mn21, Hv21, Gf21⟩ := id F20
  refine OwnW.alen (pc' := 42) (x := (1 : Int32)) d1_41 Ar21 (len_of Sz21 Mn21) rfl ?_
  refine OwnW.icmpY (pc' := 149) d1_42 (flt (by decide)).2.1 (by decide) (by decide) ?_
  refine OwnW.iloadN (pc' := 150) d1_149 rfl rfl ?_
  refine OwnW.iconst (pc' := 151) (v := (2 : Int32)) d1_150 rfl rfl ?_
  refine OwnW.iadd (pc' := 152) d1_151 rfl ?_
  show GoB11 l Z n0 (Q11 Z o q0 q1 kg ks g0 s0 h0) h17 1 3 152 #[.val (.ref o), .val (.ref q0), .val (.ref q1), .val (.int (2 : Int32)), .val (.ref ad3), .val (.int (1 : Int32)), .unset, .unset, .unset] [(.int (4 : Int32))]
  refine OwnW.newP (a0 := a0) (pc' := 154) (cap := 4) (k' := 2) (n' := 7) d1_152 (hw _ (List.mem_of_getElem? (i := 0) rfl)) (by decide) (by decide) (by decide) rfl rfl (by decide) (by decide) rfl ?_
  intro h22 kc22 ad22 g22 E22 A22
  have lt_o_ad22 : @LT.lt Nat _ o ad22 := Nat.lt_of_lt_of_le (((E_o.ext E3).wr W17)).lt (Nat.le_of_eq g22.symm)
  have lt_q0_ad22 : @LT.lt Nat _ q0 ad22 := Nat.lt_of_lt_of_le (F20).lt (Nat.le_of_eq g22.symm)
  have lt_q1_ad22 : @LT.lt Nat _ q1 ad22 := Nat.lt_of_lt_of_le ((F8.other W17 (Nat.ne_of_lt lt_q1_ad3))).lt (Nat.le_of_eq g22.symm)
  have lt_ad3_ad22 : @LT.lt Nat _ ad3 ad22 := Nat.lt_of_lt_of_le (VC18).lt (Nat.le_of_eq g22.symm)
  have ge_ad22 : n0 ≤ ad22 := Nat.le_trans sz19 (Nat.le_of_eq g22.symm)
  have sz_ad22 : n0 ≤ h22.size := Nat.le_trans sz19 E22.1
  have V22 : Arv Z h22 ad22 kc22 .int (4 : Int32) [(.int (0 : Int32)), (.int (0 : Int32)), (.int (0 : Int32)), (.int (0 : Int32))] (.int (0 : Int32)) := (Arv.new A22 (by decide)).pad (pad_rep [] _ 4)
  refine OwnW.astore (pc' := 156) (L' := #[.val (.ref o), .val (.ref q0), .val (.ref q1), .val (.int (2 : Int32)), .val (.ref ad3), .val (.ref ad22), .unset, .unset, .unset]) d1_154 (rfl) rfl rfl ?_
  refine OwnW.iconst (pc' := 157) (v := (1 : Int32)) d1_156 rfl rfl ?_
  refine OwnW.istore (pc' := 159) (L' := #[.val (.ref o), .val (.ref q0), .val (.ref q1), .val (.int (2 : Int32)), .val (.ref ad3), .val (.ref ad22), .val (.int (1 : Int32)), .unset, .unset]) d1_157 rfl rfl ?_
  refine OwnW.iload (pc' := 161) d1_159 rfl rfl ?_
  refine OwnW.iloadN (pc' := 162) d1_161 rfl rfl ?_
  refine OwnW.icmpN (pc' := 165) d1_162 (flt (by decide)).2.2.1 rfl ?_
  refine OwnW.aload (pc' := 167) d1_165 rfl (rfl) rfl ?_
  refine OwnW.iload (pc' := 169) d1_167 rfl rfl ?_
  refine OwnW.iconst (pc' := 170) (v := (1 : Int32)) d1_169 rfl rfl ?_
  refine OwnW.iadd (pc' := 171) d1_170 rfl ?_
  show GoB11 l Z n0 (Q11 Z o q0 q1 kg ks g0 s0 h0) h22 2 7 171 #[.val (.ref o), .val (.ref q0), .val (.ref q1), .val (.int (2 : Int32)), .val (.ref ad3), .val (.ref ad22), .val (.int (1 : Int32)), .unset, .unset] [(.int (2 : Int32)), (.ref ad22)]
  refine OwnW.aload (pc' := 173) d1_171 rfl (rfl) rfl ?_
  refine OwnW.iload (pc' := 175) d1_173 rfl rfl ?_
  obtain ⟨C23, hC23⟩ : ∃ z : List Int32, z = [(0 : Int32), (0 : Int32), (0 : Int32), (0 : Int32)] := ⟨_, rfl⟩
  have VC23 : Arv Z h22 ad22 kc22 .int (4 : Int32) (C23.map Value.int) (.int (0 : Int32)) := by rw [hC23]; exact V22
  have lC23 : C23.length = 4 := by rw [hC23]; rfl
  obtain ⟨cl24, Ar24, qk24, Sz24, Mn24, Hv24, Gf24⟩ := id VC23
  refine OwnW.iaload (pc' := 176) (v := .int (C23.getD 1 0)) d1_175 Ar24 (inb_of Sz24 ⟨by decide, by decide⟩) (Hv24.at (inb_of Sz24 ⟨by decide, by decide⟩) (own_gd C23 1)) rfl ?_
  show GoB11 l Z n0 (Q11 Z o q0 q1 kg ks g0 s0 h0) h22 2 7 176 #[.val (.ref o), .val (.ref q0), .val (.ref q1), .val (.int (2 : Int32)), .val (.ref ad3), .val (.ref ad22), .val (.int (1 : Int32)), .unset, .unset] [(.int (C23.getD 1 0)), (.int (2 : Int32)), (.ref ad22)]
  refine OwnW.aload (pc' := 178) d1_176 rfl (rfl) rfl ?_
  refine OwnW.iload (pc' := 180) d1_178 rfl rfl ?_
  have F25 := (VC18.ext E22)
  obtain ⟨cl26, Ar26, qk26, Sz26, Mn26, Hv26, Gf26⟩ := id F25
  refine OwnW.iaload (pc' := 181) (v := .int (C18.getD 1 0)) d1_180 Ar26 (inb_of Sz26 ⟨by decide, by decide⟩) (Hv26.at (inb_of Sz26 ⟨by decide, by decide⟩) (own_gd C18 1)) rfl ?_
  show GoB11 l Z n0 (Q11 Z o q0 q1 kg ks g0 s0 h0) h22 2 7 181 #[.val (.ref o), .val (.ref q0), .val (.ref q1), .val (.int (2 : Int32)), .val (.ref ad3), .val (.ref ad22), .val (.int (1 : Int32)), .unset, .unset] [(.int (C18.getD 1 0)), (.int (C23.getD 1 0)), (.int (2 : Int32)), (.ref ad22)]
  refine OwnW.iadd (pc' := 182) d1_181 rfl ?_
  obtain ⟨cl27, Ar27, qk27, Sz27, Mn27, Hv27, Gf27⟩ := id VC23
  refine OwnW.stI (pc' := 183) d1_182 Ar27 (inb_of Sz27 ⟨by decide, by decide⟩) ge_ad22 rfl ?_
  intro h27 W27
  have sz29 : n0 ≤ h27.size := (by rw [W27.size]; exact sz_ad22)
  obtain ⟨C28, hC28⟩ : ∃ z : List Int32, z = (C23.set 2 ((C23.getD 1 0) + (C18.getD 1 0))) := ⟨_, rfl⟩
  have VC28 : Arv Z h27 ad22 kc22 .int (4 : Int32) (C28.map Value.int) (.int (0 : Int32)) := by rw [hC28, List.map_set]; exact Arv.set Ar27 qk27 Sz27 Mn27 Hv27 Gf27 rfl W27 2 rfl (by rw [List.length_map, lC23]; decide)
  have lC28 : C28.length = 4 := by rw [hC28, List.length_set]; exact lC23
  show GoB11 l Z n0 (Q11 Z o q0 q1 kg ks g0 s0 h0) h27 2 7 183 #[.val (.ref o), .val (.ref q0), .val (.ref q1), .val (.int (2 : Int32)), .val (.ref ad3), .val (.ref ad22), .val (.int (1 : Int32)), .unset, .unset] []
  refine OwnW.iinc (pc' := 186) (L' := #[.val (.ref o), .val (.ref q0), .val (.ref q1), .val (.int (2 : Int32)), .val (.ref ad3), .val (.ref ad22), .val (.int (2 : Int32)), .unset, .unset]) (d := (1 : Int32)) d1_183 rfl rfl rfl rfl ?_
  refine OwnW.goto (pc' := 159) d1_186 (by decide) (by decide) ?_
  refine OwnW.iload (pc' := 161) d1_159 rfl rfl ?_
  refine OwnW.iloadN (pc' := 162) d1_161 rfl rfl ?_
  refine OwnW.icmpN (pc' := 165) d1_162 (flt (by decide)).2.2.1 rfl ?_
  refine OwnW.aload (pc' := 167) d1_165 rfl (rfl) rfl ?_
  refine OwnW.iload (pc' := 169) d1_167 rfl rfl ?_
  refine OwnW.iconst (pc' := 170) (v := (1 : Int32)) d1_169 rfl rfl ?_
  refine OwnW.iadd (pc' := 171) d1_170 rfl ?_
  show GoB11 l Z n0 (Q11 Z o q0 q1 kg ks g0 s0 h0) h27 2 7 171 #[.val (.ref o), .val (.ref q0), .val (.ref q1), .val (.int (2 : Int32)), .val (.ref ad3), .val (.ref ad22), .val (.int (2 : Int32)), .unset, .unset] [(.int (3 : Int32)), (.ref ad22)]
  refine OwnW.aload (pc' := 173) d1_171 rfl (rfl) rfl ?_
  refine OwnW.iload (pc' := 175) d1_173 rfl rfl ?_
  obtain ⟨cl30, Ar30, qk30, Sz30, Mn30, Hv30, Gf30⟩ := id VC28
  refine OwnW.iaload (pc' := 176) (v := .int (C28.getD 2 0)) d1_175 Ar30 (inb_of Sz30 ⟨by decide, by decide⟩) (Hv30.at (inb_of Sz30 ⟨by decide, by decide⟩) (own_gd C28 2)) rfl ?_
  show GoB11 l Z n0 (Q11 Z o q0 q1 kg ks g0 s0 h0) h27 2 7 176 #[.val (.ref o), .val (.ref q0), .val (.ref q1), .val (.int (2 : Int32)), .val (.ref ad3), .val (.ref ad22), .val (.int (2 : Int32)), .unset, .unset] [(.int (C28.getD 2 0)), (.int (3 : Int32)), (.ref ad22)]
  refine OwnW.aload (pc' := 178) d1_176 rfl (rfl) rfl ?_
  refine OwnW.iload (pc' := 180) d1_178 rfl rfl ?_
  have F31 := (F25.other W27 (Nat.ne_of_lt lt_ad3_ad22))
  obtain ⟨cl32, Ar32, qk32, Sz32, Mn32, Hv32, Gf32⟩ := id F31
  refine OwnW.iaload (pc' := 181) (v := .int (C18.getD 2 0)) d1_180 Ar32 (inb_of Sz32 ⟨by decide, by decide⟩) (Hv32.at (inb_of Sz32 ⟨by decide, by decide⟩) (own_gd C18 2)) rfl ?_
  show GoB11 l Z n0 (Q11 Z o q0 q1 kg ks g0 s0 h0) h27 2 7 181 #[.val (.ref o), .val (.ref q0), .val (.ref q1), .val (.int (2 : Int32)), .val (.ref ad3), .val (.ref ad22), .val (.int (2 : Int32)), .unset, .unset] [(.int (C18.getD 2 0)), (.int (C28.getD 2 0)), (.int (3 : Int32)), (.ref ad22)]
  refine OwnW.iadd (pc' := 182) d1_181 rfl ?_
  obtain ⟨cl33, Ar33, qk33, Sz33, Mn33, Hv33, Gf33⟩ := id VC28
  refine OwnW.stI (pc' := 183) d1_182 Ar33 (inb_of Sz33 ⟨by decide, by decide⟩) ge_ad22 rfl ?_
  intro h33 W33
  have sz35 : n0 ≤ h33.size := (by rw [W33.size]; exact sz29)
  obtain ⟨C34, hC34⟩ : ∃ z : List Int32, z = (C28.set 3 ((C28.getD 2 0) + (C18.getD 2 0))) := ⟨_, rfl⟩
  have VC34 : Arv Z h33 ad22 kc22 .int (4 : Int32) (C34.map Value.int) (.int (0 : Int32)) := by rw [hC34, List.map_set]; exact Arv.set Ar33 qk33 Sz33 Mn33 Hv33 Gf33 rfl W33 3 rfl (by rw [List.length_map, lC28]; decide)
  have lC34 : C34.length = 4 := by rw [hC34, List.length_set]; exact lC28
  show GoB11 l Z n0 (Q11 Z o q0 q1 kg ks g0 s0 h0) h33 2 7 183 #[.val (.ref o), .val (.ref q0), .val (.ref q1), .val (.int (2 : Int32)), .val (.ref ad3), .val (.ref ad22), .val (.int (2 : Int32)), .unset, .unset] []
  refine OwnW.iinc (pc' := 186) (L' := #[.val (.ref o), .val (.ref q0), .val (.ref q1), .val (.int (2 : Int32)), .val (.ref ad3), .val (.ref ad22), .val (.int (3 : Int32)), .unset, .unset]) (d := (1 : Int32)) d1_183 rfl rfl rfl rfl ?_
  refine OwnW.goto (pc' := 159) d1_186 (by decide) (by decide) ?_
  refine OwnW.iload (pc' := 161) d1_159 rfl rfl ?_
  refine OwnW.iloadN (pc' := 162) d1_161 rfl rfl ?_
  refine OwnW.icmpY (pc' := 189) d1_162 (tlt (by decide)).2.2.1 (by decide) (by decide) ?_
  refine OwnW.aload (pc' := 191) d1_189 rfl (rfl) rfl ?_
  refine OwnW.iloadN (pc' := 192) d1_191 rfl rfl ?_
  refine OwnW.iconst (pc' := 193) (v := (1 : Int32)) d1_192 rfl rfl ?_
  refine OwnW.iadd (pc' := 194) d1_193 rfl ?_
  show GoB11 l Z n0 (Q11 Z o q0 q1 kg ks g0 s0 h0) h33 2 7 194 #[.val (.ref o), .val (.ref q0), .val (.ref q1), .val (.int (2 : Int32)), .val (.ref ad3), .val (.ref ad22), .val (.int (3 : Int32)), .unset, .unset] [(.int (3 : Int32)), (.ref ad22)]
  obtain ⟨cl36, Ar36, qk36, Sz36, Mn36, Hv36, Gf36⟩ := id VC34
  refine OwnW.iaload (pc' := 195) (v := .int (C34.getD 3 0)) d1_194 Ar36 (inb_of Sz36 ⟨by decide, by decide⟩) (Hv36.at (inb_of Sz36 ⟨by decide, by decide⟩) (own_gd C34 3)) rfl ?_
  show GoB11 l Z n0 (Q11 Z o q0 q1 kg ks g0 s0 h0) h33 2 7 195 #[.val (.ref o), .val (.ref q0), .val (.ref q1), .val (.int (2 : Int32)), .val (.ref ad3), .val (.ref ad22), .val (.int (3 : Int32)), .unset, .unset] [(.int (C34.getD 3 0))]
  obtain ⟨tt, htt⟩ : ∃ z, z = (C34.getD 3 0) := ⟨_, rfl⟩
  rw [← htt]
  show GoB11 l Z n0 (Q11 Z o q0 q1 kg ks g0 s0 h0) h33 2 7 195 #[.val (.ref o), .val (.ref q0), .val (.ref q1), .val (.int (2 : Int32)), .val (.ref ad3), .val (.ref ad22), .val (.int (3 : Int32)), .unset, .unset] [(.int tt)]
  have ht2 := own_tt1 hg0 hC15 hC18 hC23 hC28 hC34 htt
  refine OwnW.newP (a0 := a0) (pc' := 197) (cap := 1) (k' := 3) (n' := 8) d1_195 (hw _ (List.mem_of_getElem? (i := 0) rfl)) ht2.1 ht2.2 (by decide) rfl rfl (by decide) (by decide) rfl ?_
  intro hm km am gm Em Am
  have lt_o_am : @LT.lt Nat _ o am := Nat.lt_of_lt_of_le ((((((E_o.ext E3).wr W17).ext E22).wr W27).wr W33)).lt (Nat.le_of_eq gm.symm)
  have lt_q0_am : @LT.lt Nat _ q0 am := Nat.lt_of_lt_of_le ((((F20.ext E22).other W27 (Nat.ne_of_lt lt_q0_ad22)).other W33 (Nat.ne_of_lt lt_q0_ad22))).lt (Nat.le_of_eq gm.symm)
  have lt_q1_am : @LT.lt Nat _ q1 am := Nat.lt_of_lt_of_le (((((F8.other W17 (Nat.ne_of_lt lt_q1_ad3)).ext E22).other W27 (Nat.ne_of_lt lt_q1_ad22)).other W33 (Nat.ne_of_lt lt_q1_ad22))).lt (Nat.le_of_eq gm.symm)
  have lt_ad3_am : @LT.lt Nat _ ad3 am := Nat.lt_of_lt_of_le ((F31.other W33 (Nat.ne_of_lt lt_ad3_ad22))).lt (Nat.le_of_eq gm.symm)
  have lt_ad22_am : @LT.lt Nat _ ad22 am := Nat.lt_of_lt_of_le (VC34).lt (Nat.le_of_eq gm.symm)
  have ge_am : n0 ≤ am := Nat.le_trans sz35 (Nat.le_of_eq gm.symm)
  have sz_am : n0 ≤ hm.size := Nat.le_trans sz35 Em.1
  have Ym : Wk Z hm am tt := ⟨_, Am, sz_new _ _ _⟩
  show GoB11 l Z n0 (Q11 Z o q0 q1 kg ks g0 s0 h0) hm 3 8 197 #[.val (.ref o), .val (.ref q0), .val (.ref q1), .val (.int (2 : Int32)), .val (.ref ad3), .val (.ref ad22), .val (.int (3 : Int32)), .unset, .unset] [(.ref am)]
  refine OwnW.astore (pc' := 199) (L' := #[.val (.ref o), .val (.ref q0), .val (.ref q1), .val (.int (2 : Int32)), .val (.ref ad3), .val (.ref ad22), .val (.ref am), .unset, .unset]) d1_197 (rfl) rfl rfl ?_
  refine OwnW.aload (pc' := 201) d1_199 rfl (rfl) rfl ?_
  refine OwnW.iloadN (pc' := 202) d1_201 rfl rfl ?_
  refine OwnW.iconst (pc' := 203) (v := (1 : Int32)) d1_202 rfl rfl ?_
  refine OwnW.iadd (pc' := 204) d1_203 rfl ?_
  show GoB11 l Z n0 (Q11 Z o q0 q1 kg ks g0 s0 h0) hm 3 8 204 #[.val (.ref o), .val (.ref q0), .val (.ref q1), .val (.int (2 : Int32)), .val (.ref ad3), .val (.ref ad22), .val (.ref am), .unset, .unset] [(.int (3 : Int32)), (.ref ad22)]
  have F37 := (VC34.ext Em)
  refine OwnW.callS (a0 := a0) (pc' := 207) (W := 0) (k' := 4) (n' := 11) (argsL := [(.ref ad22), (.int (3 : Int32))]) (rest := []) d1_204 (hw _ (List.mem_of_getElem? (i := 11) rfl)) (hw _ (List.mem_of_getElem? (i := 12) rfl)) (hw _ (List.mem_of_getElem? (i := 13) rfl)) (hw _ (List.mem_of_getElem? (i := 14) rfl)) (by decide) (rm3 l Z a0 hw ad22 kc22 C34 hm n0 sz_am F37) (by decide) (by decide) rfl rfl (by decide) (by decide) rfl pd_285bII295bI rfl rfl rfl (Nat.le_of_ble_eq_true rfl) rfl ?_
  rintro h38 v38 ⟨ad38_0, kc38_0, rfl, K38, gl38_0, Fc38_0⟩
  have lt_o_ad38_0 : @LT.lt Nat _ o ad38_0 := Nat.lt_of_lt_of_le (((((((E_o.ext E3).wr W17).ext E22).wr W27).wr W33).ext Em)).lt gl38_0
  have lt_q0_ad38_0 : @LT.lt Nat _ q0 ad38_0 := Nat.lt_of_lt_of_le (((((F20.ext E22).other W27 (Nat.ne_of_lt lt_q0_ad22)).other W33 (Nat.ne_of_lt lt_q0_ad22)).ext Em)).lt gl38_0
  have lt_q1_ad38_0 : @LT.lt Nat _ q1 ad38_0 := Nat.lt_of_lt_of_le ((((((F8.other W17 (Nat.ne_of_lt lt_q1_ad3)).ext E22).other W27 (Nat.ne_of_lt lt_q1_ad22)).other W33 (Nat.ne_of_lt lt_q1_ad22)).ext Em)).lt gl38_0
  have lt_ad3_ad38_0 : @LT.lt Nat _ ad3 ad38_0 := Nat.lt_of_lt_of_le (((F31.other W33 (Nat.ne_of_lt lt_ad3_ad22)).ext Em)).lt gl38_0
  have lt_ad22_ad38_0 : @LT.lt Nat _ ad22 ad38_0 := Nat.lt_of_lt_of_le (F37).lt gl38_0
  have lt_am_ad38_0 : @LT.lt Nat _ am ad38_0 := Nat.lt_of_lt_of_le (Ym).lt gl38_0
  have ge_ad38_0 : n0 ≤ ad38_0 := Nat.le_trans sz_am gl38_0
  have sz39 : n0 ≤ h38.size := Nat.le_trans sz_am K38.1
  show GoB11 l Z n0 (Q11 Z o q0 q1 kg ks g0 s0 h0) h38 4 11 207 #[.val (.ref o), .val (.ref q0), .val (.ref q1), .val (.int (2 : Int32)), .val (.ref ad3), .val (.ref ad22), .val (.ref am), .unset, .unset] [(.ref ad38_0)]
  refine OwnW.astore (pc' := 209) (L' := #[.val (.ref o), .val (.ref q0), .val (.ref q1), .val (.int (2 : Int32)), .val (.ref ad3), .val (.ref ad22), .val (.ref am), .val (.ref ad38_0), .unset]) d1_207 (rfl) rfl rfl ?_
  refine OwnW.iconst (pc' := 210) (v := (0 : Int32)) d1_209 rfl rfl ?_
  refine OwnW.istore (pc' := 212) (L' := #[.val (.ref o), .val (.ref q0), .val (.ref q1), .val (.int (2 : Int32)), .val (.ref ad3), .val (.ref ad22), .val (.ref am), .val (.ref ad38_0), .val (.int (0 : Int32))]) d1_210 rfl rfl ?_
  refine OwnW.iload (pc' := 214) d1_212 rfl rfl ?_
  refine OwnW.aloadN (pc' := 215) d1_214 rfl (rfl) rfl ?_
  have F40 := (((((F20.ext E22).other W27 (Nat.ne_of_lt lt_q0_ad22)).other W33 (Nat.ne_of_lt lt_q0_ad22)).ext Em).keep K38 nin0)
  obtain ⟨cl41, Ar41, qk41, Sz41, Mn41, Hv41, Gf41⟩ := id F40
  refine OwnW.alen (pc' := 216) (x := (1 : Int32)) d1_215 Ar41 (len_of Sz41 Mn41) rfl ?_
  refine OwnW.icmpN (pc' := 219) d1_216 (tlt (by decide)).2.1 rfl ?_
  refine OwnW.aloadN (pc' := 220) d1_219 rfl (rfl) rfl ?_
  refine OwnW.iload (pc' := 222) d1_220 rfl rfl ?_
  obtain ⟨cl42, Ar42, qk42, Sz42, Mn42, Hv42, Gf42⟩ := id F40
  refine OwnW.iaload (pc' := 223) (v := (.int g0)) d1_222 Ar42 (inb_of Sz42 ⟨by decide, by decide⟩) (Hv42.at (inb_of Sz42 ⟨by decide, by decide⟩) rfl) rfl ?_
  by_cases hc223 : (0 : Int32) < g0
  ·
    refine OwnW.ifcN (pc' := 226) d1_223 ((if0 _ _).trans (tlt hc223).2.2.2) rfl ?_
    refine OwnW.aload (pc' := 228) d1_226 rfl (rfl) rfl ?_
    refine OwnW.aload (pc' := 230) d1_228 rfl (rfl) rfl ?_
    refine OwnW.aloadN (pc' := 231) d1_230 rfl (rfl) rfl ?_
    refine OwnW.iload (pc' := 233) d1_231 rfl rfl ?_
    obtain ⟨cl43, Ar43, qk43, Sz43, Mn43, Hv43, Gf43⟩ := id F40
    refine OwnW.iaload (pc' := 234) (v := (.int g0)) d1_233 Ar43 (inb_of Sz43 ⟨by decide, by decide⟩) (Hv43.at (inb_of Sz43 ⟨by decide, by decide⟩) rfl) rfl ?_
    refine OwnW.dup2 (pc' := 235) d1_234 rfl rfl rfl ?_
    obtain ⟨C44, hC44⟩ : ∃ z : List Int32, z = [(C34.getD 0 0), (C34.getD 1 0), (C34.getD 2 0)] := ⟨_, rfl⟩
    have VC44 : Arv Z h38 ad38_0 kc38_0 .int (3 : Int32) (C44.map Value.int) (.int (0 : Int32)) := by rw [hC44]; exact Fc38_0
    have lC44 : C44.length = 3 := by rw [hC44]; rfl
    obtain ⟨cl45, Ar45, qk45, Sz45, Mn45, Hv45, Gf45⟩ := id VC44
    refine OwnW.iaload (pc' := 236) (v := .int (C44.getD g0.toNatClampNeg 0)) d1_235 Ar45 (inb_of Sz45 (own_bd hg0)) (Hv45.at (inb_of Sz45 (own_bd hg0)) (own_gd C44 g0.toNatClampNeg)) rfl ?_
    show GoB11 l Z n0 (Q11 Z o q0 q1 kg ks g0 s0 h0) h38 4 11 236 #[.val (.ref o), .val (.ref q0), .val (.ref q1), .val (.int (2 : Int32)), .val (.ref ad3), .val (.ref ad22), .val (.ref am), .val (.ref ad38_0), .val (.int (0 : Int32))] [(.int (C44.getD g0.toNatClampNeg 0)), (.int g0), (.ref ad38_0), (.ref am)]
    refine OwnW.dupX2 (pc' := 237) d1_236 rfl ?_
    refine OwnW.iconst (pc' := 238) (v := (1 : Int32)) d1_237 rfl rfl ?_
    refine OwnW.iadd (pc' := 239) d1_238 rfl ?_
    obtain ⟨cl46, Ar46, qk46, Sz46, Mn46, Hv46, Gf46⟩ := id VC44
    refine OwnW.stI (pc' := 240) d1_239 Ar46 (inb_of Sz46 (own_bd hg0)) ge_ad38_0 rfl ?_
    intro h46 W46
    have sz48 : n0 ≤ h46.size := (by rw [W46.size]; exact sz39)
    obtain ⟨C47, hC47⟩ : ∃ z : List Int32, z = (C44.set g0.toNatClampNeg ((C44.getD g0.toNatClampNeg 0) + (1 : Int32))) := ⟨_, rfl⟩
    have VC47 : Arv Z h46 ad38_0 kc38_0 .int (3 : Int32) (C47.map Value.int) (.int (0 : Int32)) := by rw [hC47, List.map_set]; exact Arv.set Ar46 qk46 Sz46 Mn46 Hv46 Gf46 rfl W46 g0.toNatClampNeg rfl (own_ln (z := (3 : Int32)) lC44 (own_bd hg0))
    have lC47 : C47.length = 3 := by rw [hC47, List.length_set]; exact lC44
    show GoB11 l Z n0 (Q11 Z o q0 q1 kg ks g0 s0 h0) h46 4 11 240 #[.val (.ref o), .val (.ref q0), .val (.ref q1), .val (.int (2 : Int32)), .val (.ref ad3), .val (.ref ad22), .val (.ref am), .val (.ref ad38_0), .val (.int (0 : Int32))] [(.int (C44.getD g0.toNatClampNeg 0)), (.ref am)]
    refine OwnW.iload (pc' := 242) d1_240 rfl rfl ?_
    have F50 := ((Ym.keep K38 nin0).other W46 (Nat.ne_of_lt lt_am_ad38_0))
    obtain ⟨cl49, Ar49, Sz49⟩ := id F50
    refine OwnW.stI (pc' := 243) d1_242 Ar49 (inb_of Sz49 (own_mb1_0 hg0 hC15 hC18 hC23 hC28 hC34 hC44 hC47 htt hc223)) ge_am rfl ?_
    intro h49 W49
    have sz51 : n0 ≤ h49.size := (by rw [W49.size]; exact sz48)
    have Y49 : Wk Z h49 am tt := Wk.same ⟨cl49, Ar49, Sz49⟩ W49
    show GoB11 l Z n0 (Q11 Z o q0 q1 kg ks g0 s0 h0) h49 4 11 243 #[.val (.ref o), .val (.ref q0), .val (.ref q1), .val (.int (2 : Int32)), .val (.ref ad3), .val (.ref ad22), .val (.ref am), .val (.ref ad38_0), .val (.int (0 : Int32))] []
    refine OwnW.iinc (pc' := 246) (L' := #[.val (.ref o), .val (.ref q0), .val (.ref q1), .val (.int (2 : Int32)), .val (.ref ad3), .val (.ref ad22), .val (.ref am), .val (.ref ad38_0), .val (.int (1 : Int32))]) (d := (1 : Int32)) d1_243 rfl rfl rfl rfl ?_
    refine OwnW.goto (pc' := 212) d1_246 (by decide) (by decide) ?_
    refine OwnW.iload (pc' := 214) d1_212 rfl rfl ?_
    refine OwnW.aloadN (pc' := 215) d1_214 rfl (rfl) rfl ?_
    have F52 := ((F40.other W46 (Nat.ne_of_lt lt_q0_ad38_0)).other W49 (Nat.ne_of_lt lt_q0_am))
    obtain ⟨cl53, Ar53, qk53, Sz53, Mn53, Hv53, Gf53⟩ := id F52
    refine OwnW.alen (pc' := 216) (x := (1 : Int32)) d1_215 Ar53 (len_of Sz53 Mn53) rfl ?_
    refine OwnW.icmpY (pc' := 249) d1_216 (flt (by decide)).2.1 (by decide) (by decide) ?_
    refine OwnW.aloadN (pc' := 250) d1_249 rfl (rfl) rfl ?_
    refine OwnW.aloadN (pc' := 251) d1_250 rfl (rfl) rfl ?_
    have F55 := (((((((((F_groups.ext E3).other W17 (Or.inl (Nat.ne_of_lt lt_o_ad3))).ext E22).other W27 (Or.inl (Nat.ne_of_lt lt_o_ad22))).other W33 (Or.inl (Nat.ne_of_lt lt_o_ad22))).ext Em).keep K38 nin0).other W46 (Or.inl (Nat.ne_of_lt lt_o_ad38_0))).other W49 (Or.inl (Nat.ne_of_lt lt_o_am)))
    have F56 := (((((((((E_o.ext E3).wr W17).ext E22).wr W27).wr W33).ext Em).keep K38).wr W46).wr W49)
    refine OwnW.putF (a0 := a0) (pc' := 254) d1_251 (host := "") (Or.inl (hw _ (List.mem_of_getElem? (i := 23) rfl))) Via.refl F55 F56 (Or.inr ⟨(hw _ (List.mem_of_getElem? (i := 24) rfl)), rfl, rfl⟩) (hw _ (List.mem_of_getElem? (i := 3) rfl)) (ty := (.array .int)) (by decide) rfl rfl g_o rfl ?_
    intro h54 W54
    have sz57 : n0 ≤ h54.size := (by rw [W54.size]; exact sz51)
    have F58 := F55.same W54
    refine OwnW.aloadN (pc' := 255) d1_254 rfl (rfl) rfl ?_
    refine OwnW.aloadN (pc' := 256) d1_255 rfl (rfl) rfl ?_
    have F60 := ((((((((((F_shares.ext E3).other W17 (Or.inl (Nat.ne_of_lt lt_o_ad3))).ext E22).other W27 (Or.inl (Nat.ne_of_lt lt_o_ad22))).other W33 (Or.inl (Nat.ne_of_lt lt_o_ad22))).ext Em).keep K38 nin0).other W46 (Or.inl (Nat.ne_of_lt lt_o_ad38_0))).other W49 (Or.inl (Nat.ne_of_lt lt_o_am))).other W54 (Or.inr (slot_ne (a0 := a0) (C := "com/example/sieve_for_links/sieveforlinks/VirtualLinks") (Or.inr (hw _ (List.mem_of_getElem? (i := 26) rfl))) (Or.inr (hw _ (List.mem_of_getElem? (i := 24) rfl))) (by decide) (t := (.array .double)) (t' := (.array .int)) (by decide) (by decide))))
    have F61 := (F56.wr W54)
    refine OwnW.putF (a0 := a0) (pc' := 259) d1_256 (host := "") (Or.inl (hw _ (List.mem_of_getElem? (i := 25) rfl))) Via.refl F60 F61 (Or.inr ⟨(hw _ (List.mem_of_getElem? (i := 26) rfl)), rfl, rfl⟩) (hw _ (List.mem_of_getElem? (i := 3) rfl)) (ty := (.array .double)) (by decide) rfl rfl g_o rfl ?_
    intro h59 W59
    have sz62 : n0 ≤ h59.size := (by rw [W59.size]; exact sz57)
    have F63 := F60.same W59
    refine OwnW.aloadN (pc' := 260) d1_259 rfl (rfl) rfl ?_
    refine OwnW.aload (pc' := 262) d1_260 rfl (rfl) rfl ?_
    have F65 := (((((((((((F_members.ext E3).other W17 (Or.inl (Nat.ne_of_lt lt_o_ad3))).ext E22).other W27 (Or.inl (Nat.ne_of_lt lt_o_ad22))).other W33 (Or.inl (Nat.ne_of_lt lt_o_ad22))).ext Em).keep K38 nin0).other W46 (Or.inl (Nat.ne_of_lt lt_o_ad38_0))).other W49 (Or.inl (Nat.ne_of_lt lt_o_am))).other W54 (Or.inr (slot_ne (a0 := a0) (C := "com/example/sieve_for_links/sieveforlinks/VirtualLinks") (Or.inr (hw _ (List.mem_of_getElem? (i := 28) rfl))) (Or.inr (hw _ (List.mem_of_getElem? (i := 24) rfl))) (by decide) (t := (.array .int)) (t' := (.array .int)) (by decide) (by decide)))).other W59 (Or.inr (slot_ne (a0 := a0) (C := "com/example/sieve_for_links/sieveforlinks/VirtualLinks") (Or.inr (hw _ (List.mem_of_getElem? (i := 28) rfl))) (Or.inr (hw _ (List.mem_of_getElem? (i := 26) rfl))) (by decide) (t := (.array .int)) (t' := (.array .double)) (by decide) (by decide))))
    have F66 := (F61.wr W59)
    refine OwnW.putF (a0 := a0) (pc' := 265) d1_262 (host := "") (Or.inl (hw _ (List.mem_of_getElem? (i := 27) rfl))) Via.refl F65 F66 (Or.inr ⟨(hw _ (List.mem_of_getElem? (i := 28) rfl)), rfl, rfl⟩) (hw _ (List.mem_of_getElem? (i := 3) rfl)) (ty := (.array .int)) (by decide) rfl rfl g_o rfl ?_
    intro h64 W64
    have sz67 : n0 ≤ h64.size := (by rw [W64.size]; exact sz62)
    have F68 := F65.same W64
    refine OwnW.aloadN (pc' := 266) d1_265 rfl (rfl) rfl ?_
    refine OwnW.aload (pc' := 268) d1_266 rfl (rfl) rfl ?_
    have F70 := ((((((((((((F_memberStarts.ext E3).other W17 (Or.inl (Nat.ne_of_lt lt_o_ad3))).ext E22).other W27 (Or.inl (Nat.ne_of_lt lt_o_ad22))).other W33 (Or.inl (Nat.ne_of_lt lt_o_ad22))).ext Em).keep K38 nin0).other W46 (Or.inl (Nat.ne_of_lt lt_o_ad38_0))).other W49 (Or.inl (Nat.ne_of_lt lt_o_am))).other W54 (Or.inr (slot_ne (a0 := a0) (C := "com/example/sieve_for_links/sieveforlinks/VirtualLinks") (Or.inr (hw _ (List.mem_of_getElem? (i := 30) rfl))) (Or.inr (hw _ (List.mem_of_getElem? (i := 24) rfl))) (by decide) (t := (.array .int)) (t' := (.array .int)) (by decide) (by decide)))).other W59 (Or.inr (slot_ne (a0 := a0) (C := "com/example/sieve_for_links/sieveforlinks/VirtualLinks") (Or.inr (hw _ (List.mem_of_getElem? (i := 30) rfl))) (Or.inr (hw _ (List.mem_of_getElem? (i := 26) rfl))) (by decide) (t := (.array .int)) (t' := (.array .double)) (by decide) (by decide)))).other W64 (Or.inr (slot_ne (a0 := a0) (C := "com/example/sieve_for_links/sieveforlinks/VirtualLinks") (Or.inr (hw _ (List.mem_of_getElem? (i := 30) rfl))) (Or.inr (hw _ (List.mem_of_getElem? (i := 28) rfl))) (by decide) (t := (.array .int)) (t' := (.array .int)) (by decide) (by decide))))
    have F71 := (F66.wr W64)
    refine OwnW.putF (a0 := a0) (pc' := 271) d1_268 (host := "") (Or.inl (hw _ (List.mem_of_getElem? (i := 29) rfl))) Via.refl F70 F71 (Or.inr ⟨(hw _ (List.mem_of_getElem? (i := 30) rfl)), rfl, rfl⟩) (hw _ (List.mem_of_getElem? (i := 3) rfl)) (ty := (.array .int)) (by decide) rfl rfl g_o rfl ?_
    intro h69 W69
    have sz72 : n0 ≤ h69.size := (by rw [W69.size]; exact sz67)
    have F73 := F70.same W69
    exact OwnW.ret0 d1_271 rfl (by decide) (by decide) (⟨rfl, ((((((((((((((Keep.refl h0 [o]).ext E3).wr W17 (Or.inr (Nat.le_trans (Nat.le_refl _) (Nat.le_of_eq g3.symm)))).ext E22).wr W27 (Or.inr (Nat.le_trans (Nat.le_trans (Nat.le_trans (Nat.le_refl _) E3.1) (Nat.le_of_eq W17.size.symm)) (Nat.le_of_eq g22.symm)))).wr W33 (Or.inr (Nat.le_trans (Nat.le_trans (Nat.le_trans (Nat.le_refl _) E3.1) (Nat.le_of_eq W17.size.symm)) (Nat.le_of_eq g22.symm)))).ext Em).trans K38 all0).wr W46 (Or.inr (Nat.le_trans (Nat.le_trans (Nat.le_trans (Nat.le_trans (Nat.le_trans (Nat.le_trans (Nat.le_trans (Nat.le_refl _) E3.1) (Nat.le_of_eq W17.size.symm)) E22.1) (Nat.le_of_eq W27.size.symm)) (Nat.le_of_eq W33.size.symm)) Em.1) gl38_0))).wr W49 (Or.inr (Nat.le_trans (Nat.le_trans (Nat.le_trans (Nat.le_trans (Nat.le_trans (Nat.le_trans (Nat.le_refl _) E3.1) (Nat.le_of_eq W17.size.symm)) E22.1) (Nat.le_of_eq W27.size.symm)) (Nat.le_of_eq W33.size.symm)) (Nat.le_of_eq gm.symm)))).wr W54 (Or.inl (List.mem_of_getElem? (i := 0) rfl))).wr W59 (Or.inl (List.mem_of_getElem? (i := 0) rfl))).wr W64 (Or.inl (List.mem_of_getElem? (i := 0) rfl))).wr W69 (Or.inl (List.mem_of_getElem? (i := 0) rfl))), (F71.wr W69), (((F58.other W59 (Or.inr (slot_ne (a0 := a0) (C := "com/example/sieve_for_links/sieveforlinks/VirtualLinks") (Or.inr (hw _ (List.mem_of_getElem? (i := 24) rfl))) (Or.inr (hw _ (List.mem_of_getElem? (i := 26) rfl))) (by decide) (t := (.array .int)) (t' := (.array .double)) (by decide) (by decide)))).other W64 (Or.inr (slot_ne (a0 := a0) (C := "com/example/sieve_for_links/sieveforlinks/VirtualLinks") (Or.inr (hw _ (List.mem_of_getElem? (i := 24) rfl))) (Or.inr (hw _ (List.mem_of_getElem? (i := 28) rfl))) (by decide) (t := (.array .int)) (t' := (.array .int)) (by decide) (by decide)))).other W69 (Or.inr (slot_ne (a0 := a0) (C := "com/example/sieve_for_links/sieveforlinks/VirtualLinks") (Or.inr (hw _ (List.mem_of_getElem? (i := 24) rfl))) (Or.inr (hw _ (List.mem_of_getElem? (i := 30) rfl))) (by decide) (t := (.array .int)) (t' := (.array .int)) (by decide) (by decide))))⟩)
  ·
    refine OwnW.ifcY (pc' := 243) d1_223 ((if0 _ _).trans (flt hc223).2.2.2) (by decide) (by decide) ?_
    refine OwnW.iinc (pc' := 246) (L' := #[.val (.ref o), .val (.ref q0), .val (.ref q1), .val (.int (2 : Int32)), .val (.ref ad3), .val (.ref ad22), .val (.ref am), .val (.ref ad38_0), .val (.int (1 : Int32))]) (d := (1 : Int32)) d1_243 rfl rfl rfl rfl ?_
    refine OwnW.goto (pc' := 212) d1_246 (by decide) (by decide) ?_
    refine OwnW.iload (pc' := 214) d1_212 rfl rfl ?_
    refine OwnW.aloadN (pc' := 215) d1_214 rfl (rfl) rfl ?_
    obtain ⟨cl74, Ar74, qk74, Sz74, Mn74, Hv74, Gf74⟩ := id F40
    refine OwnW.alen (pc' := 216) (x := (1 : Int32)) d1_215 Ar74 (len_of Sz74 Mn74) rfl ?_
    refine OwnW.icmpY (pc' := 249) d1_216 (flt (by decide)).2.1 (by decide) (by decide) ?_
    refine OwnW.aloadN (pc' := 250) d1_249 rfl (rfl) rfl ?_
    refine OwnW.aloadN (pc' := 251) d1_250 rfl (rfl) rfl ?_
    have F76 := (((((((F_groups.ext E3).other W17 (Or.inl (Nat.ne_of_lt lt_o_ad3))).ext E22).other W27 (Or.inl (Nat.ne_of_lt lt_o_ad22))).other W33 (Or.inl (Nat.ne_of_lt lt_o_ad22))).ext Em).keep K38 nin0)
    have F77 := (((((((E_o.ext E3).wr W17).ext E22).wr W27).wr W33).ext Em).keep K38)
    refine OwnW.putF (a0 := a0) (pc' := 254) d1_251 (host := "") (Or.inl (hw _ (List.mem_of_getElem? (i := 23) rfl))) Via.refl F76 F77 (Or.inr ⟨(hw _ (List.mem_of_getElem? (i := 24) rfl)), rfl, rfl⟩) (hw _ (List.mem_of_getElem? (i := 3) rfl)) (ty := (.array .int)) (by decide) rfl rfl g_o rfl ?_
    intro h75 W75
    have sz78 : n0 ≤ h75.size := (by rw [W75.size]; exact sz39)
    have F79 := F76.same W75
    refine OwnW.aloadN (pc' := 255) d1_254 rfl (rfl) rfl ?_
    refine OwnW.aloadN (pc' := 256) d1_255 rfl (rfl) rfl ?_
    have F81 := ((((((((F_shares.ext E3).other W17 (Or.inl (Nat.ne_of_lt lt_o_ad3))).ext E22).other W27 (Or.inl (Nat.ne_of_lt lt_o_ad22))).other W33 (Or.inl (Nat.ne_of_lt lt_o_ad22))).ext Em).keep K38 nin0).other W75 (Or.inr (slot_ne (a0 := a0) (C := "com/example/sieve_for_links/sieveforlinks/VirtualLinks") (Or.inr (hw _ (List.mem_of_getElem? (i := 26) rfl))) (Or.inr (hw _ (List.mem_of_getElem? (i := 24) rfl))) (by decide) (t := (.array .double)) (t' := (.array .int)) (by decide) (by decide))))
    have F82 := (F77.wr W75)
    refine OwnW.putF (a0 := a0) (pc' := 259) d1_256 (host := "") (Or.inl (hw _ (List.mem_of_getElem? (i := 25) rfl))) Via.refl F81 F82 (Or.inr ⟨(hw _ (List.mem_of_getElem? (i := 26) rfl)), rfl, rfl⟩) (hw _ (List.mem_of_getElem? (i := 3) rfl)) (ty := (.array .double)) (by decide) rfl rfl g_o rfl ?_
    intro h80 W80
    have sz83 : n0 ≤ h80.size := (by rw [W80.size]; exact sz78)
    have F84 := F81.same W80
    refine OwnW.aloadN (pc' := 260) d1_259 rfl (rfl) rfl ?_
    refine OwnW.aload (pc' := 262) d1_260 rfl (rfl) rfl ?_
    have F86 := (((((((((F_members.ext E3).other W17 (Or.inl (Nat.ne_of_lt lt_o_ad3))).ext E22).other W27 (Or.inl (Nat.ne_of_lt lt_o_ad22))).other W33 (Or.inl (Nat.ne_of_lt lt_o_ad22))).ext Em).keep K38 nin0).other W75 (Or.inr (slot_ne (a0 := a0) (C := "com/example/sieve_for_links/sieveforlinks/VirtualLinks") (Or.inr (hw _ (List.mem_of_getElem? (i := 28) rfl))) (Or.inr (hw _ (List.mem_of_getElem? (i := 24) rfl))) (by decide) (t := (.array .int)) (t' := (.array .int)) (by decide) (by decide)))).other W80 (Or.inr (slot_ne (a0 := a0) (C := "com/example/sieve_for_links/sieveforlinks/VirtualLinks") (Or.inr (hw _ (List.mem_of_getElem? (i := 28) rfl))) (Or.inr (hw _ (List.mem_of_getElem? (i := 26) rfl))) (by decide) (t := (.array .int)) (t' := (.array .double)) (by decide) (by decide))))
    have F87 := (F82.wr W80)
    refine OwnW.putF (a0 := a0) (pc' := 265) d1_262 (host := "") (Or.inl (hw _ (List.mem_of_getElem? (i := 27) rfl))) Via.refl F86 F87 (Or.inr ⟨(hw _ (List.mem_of_getElem? (i := 28) rfl)), rfl, rfl⟩) (hw _ (List.mem_of_getElem? (i := 3) rfl)) (ty := (.array .int)) (by decide) rfl rfl g_o rfl ?_
    intro h85 W85
    have sz88 : n0 ≤ h85.size := (by rw [W85.size]; exact sz83)
    have F89 := F86.same W85
    refine OwnW.aloadN (pc' := 266) d1_265 rfl (rfl) rfl ?_
    refine OwnW.aload (pc' := 268) d1_266 rfl (rfl) rfl ?_
    have F91 := ((((((((((F_memberStarts.ext E3).other W17 (Or.inl (Nat.ne_of_lt lt_o_ad3))).ext E22).other W27 (Or.inl (Nat.ne_of_lt lt_o_ad22))).other W33 (Or.inl (Nat.ne_of_lt lt_o_ad22))).ext Em).keep K38 nin0).other W75 (Or.inr (slot_ne (a0 := a0) (C := "com/example/sieve_for_links/sieveforlinks/VirtualLinks") (Or.inr (hw _ (List.mem_of_getElem? (i := 30) rfl))) (Or.inr (hw _ (List.mem_of_getElem? (i := 24) rfl))) (by decide) (t := (.array .int)) (t' := (.array .int)) (by decide) (by decide)))).other W80 (Or.inr (slot_ne (a0 := a0) (C := "com/example/sieve_for_links/sieveforlinks/VirtualLinks") (Or.inr (hw _ (List.mem_of_getElem? (i := 30) rfl))) (Or.inr (hw _ (List.mem_of_getElem? (i := 26) rfl))) (by decide) (t := (.array .int)) (t' := (.array .double)) (by decide) (by decide)))).other W85 (Or.inr (slot_ne (a0 := a0) (C := "com/example/sieve_for_links/sieveforlinks/VirtualLinks") (Or.inr (hw _ (List.mem_of_getElem? (i := 30) rfl))) (Or.inr (hw _ (List.mem_of_getElem? (i := 28) rfl))) (by decide) (t := (.array .int)) (t' := (.array .int)) (by decide) (by decide))))
    have F92 := (F87.wr W85)
    refine OwnW.putF (a0 := a0) (pc' := 271) d1_268 (host := "") (Or.inl (hw _ (List.mem_of_getElem? (i := 29) rfl))) Via.refl F91 F92 (Or.inr ⟨(hw _ (List.mem_of_getElem? (i := 30) rfl)), rfl, rfl⟩) (hw _ (List.mem_of_getElem? (i := 3) rfl)) (ty := (.array .int)) (by decide) rfl rfl g_o rfl ?_
    intro h90 W90
    have sz93 : n0 ≤ h90.size := (by rw [W90.size]; exact sz88)
    have F94 := F91.same W90
    exact OwnW.ret0 d1_271 rfl (by decide) (by decide) (⟨rfl, ((((((((((((Keep.refl h0 [o]).ext E3).wr W17 (Or.inr (Nat.le_trans (Nat.le_refl _) (Nat.le_of_eq g3.symm)))).ext E22).wr W27 (Or.inr (Nat.le_trans (Nat.le_trans (Nat.le_trans (Nat.le_refl _) E3.1) (Nat.le_of_eq W17.size.symm)) (Nat.le_of_eq g22.symm)))).wr W33 (Or.inr (Nat.le_trans (Nat.le_trans (Nat.le_trans (Nat.le_refl _) E3.1) (Nat.le_of_eq W17.size.symm)) (Nat.le_of_eq g22.symm)))).ext Em).trans K38 all0).wr W75 (Or.inl (List.mem_of_getElem? (i := 0) rfl))).wr W80 (Or.inl (List.mem_of_getElem? (i := 0) rfl))).wr W85 (Or.inl (List.mem_of_getElem? (i := 0) rfl))).wr W90 (Or.inl (List.mem_of_getElem? (i := 0) rfl))), (F92.wr W90), (((F79.other W80 (Or.inr (slot_ne (a0 := a0) (C := "com/example/sieve_for_links/sieveforlinks/VirtualLinks") (Or.inr (hw _ (List.mem_of_getElem? (i := 24) rfl))) (Or.inr (hw _ (List.mem_of_getElem? (i := 26) rfl))) (by decide) (t := (.array .int)) (t' := (.array .double)) (by decide) (by decide)))).other W85 (Or.inr (slot_ne (a0 := a0) (C := "com/example/sieve_for_links/sieveforlinks/VirtualLinks") (Or.inr (hw _ (List.mem_of_getElem? (i := 24) rfl))) (Or.inr (hw _ (List.mem_of_getElem? (i := 28) rfl))) (by decide) (t := (.array .int)) (t' := (.array .int)) (by decide) (by decide)))).other W90 (Or.inr (slot_ne (a0 := a0) (C := "com/example/sieve_for_links/sieveforlinks/VirtualLinks") (Or.inr (hw _ (List.mem_of_getElem? (i := 24) rfl))) (Or.inr (hw _ (List.mem_of_getElem? (i := 30) rfl))) (by decide) (t := (.array .int)) (t' := (.array .int)) (by decide) (by decide))))⟩)
def Q12 (Z : State) (o : Addr) (q0 : Addr) (q1 : Addr) (kg : ClassId) (ks : ClassId) (g0 : Int32) (g1 : Int32) (s0 : UInt64) (s1 : UInt64) (h0 : Heap) (v : Option Value) (h : Heap) : Prop := v = none ∧ Keep h0 h [o] ∧ Exa Z h o "com/example/sieve_for_links/sieveforlinks/VirtualLinks" ∧ Fld Z h o "com/example/sieve_for_links/sieveforlinks/VirtualLinks" "groups" "[I" (.ref q0)
abbrev GoB12 (l : Launch) (Z : State) (n0 : Nat) (Q : Option Value → Heap → Prop) := Go l Z ({ frames := 2, cells := 4, slots := 12, locals := 32 } : Room) (⟨"com/example/sieve_for_links/sieveforlinks/VirtualLinks", "<init>", "([I[DI)V"⟩ : MethodName) prog_33_method_1_code 9 none n0 Q
theorem ef12 (m : MethodId) (o : Addr) (q0 : Addr) (q1 : Addr) : entryFrame m #[(.ref o), (.ref q0), (.ref q1), (.int (2 : Int32))] 9 = mkF m 0 #[.val (.ref o), .val (.ref q0), .val (.ref q1), .val (.int (2 : Int32)), .unset, .unset, .unset, .unset, .unset] [] := by first | (simp [entryFrame, mkF, argsToLocals, Value.category]; done) | rfl
set_option maxRecDepth 65536 in
set_option maxHeartbeats 40000000 in
theorem rm12 (l : Launch) (Z : State) (a0 : Array Value) (hw : ∀ d ∈ tables_1, d.before a0 Z = true) (o : Addr) (q0 : Addr) (q1 : Addr) (kg : ClassId) (ks : ClassId) (g0 : Int32) (g1 : Int32) (s0 : UInt64) (s1 : UInt64) (h0 : Heap) (n0 : Nat) (Z0 : n0 ≤ h0.size) (g_o : n0 ≤ o) (E_o : Exa Z h0 o "com/example/sieve_for_links/sieveforlinks/VirtualLinks") (F_groups : Fld Z h0 o "com/example/sieve_for_links/sieveforlinks/VirtualLinks" "groups" "[I" .null) (F_shares : Fld Z h0 o "com/example/sieve_for_links/sieveforlinks/VirtualLinks" "shares" "[D" .null) (F_members : Fld Z h0 o "com/example/sieve_for_links/sieveforlinks/VirtualLinks" "members" "[I" .null) (F_memberStarts : Fld Z h0 o "com/example/sieve_for_links/sieveforlinks/VirtualLinks" "memberStarts" "[I" .null) (A_g : Arv Z h0 q0 kg .int (2 : Int32) [(.int g0), (.int g1)] (.int (0 : Int32))) (A_s : Arv Z h0 q1 ks .double (2 : Int32) [(.double s0), (.double s1)] (.double (0 : UInt64))) (hg0 : own_G g0) (hg1 : own_G g1) (hs0 : own_S g0 s0) (hs1 : own_S g1 s1) :
    Con l Z ({ frames := 2, cells := 4, slots := 12, locals := 32 } : Room) (⟨"com/example/sieve_for_links/sieveforlinks/VirtualLinks", "<init>", "([I[DI)V"⟩ : MethodName) prog_33_method_1_code 9 none n0 #[(.ref o), (.ref q0), (.ref q1), (.int (2 : Int32))] h0 (Q12 Z o q0 q1 kg ks g0 g1 s0 s1 h0) := by
  refine OwnW.Con.of (by first | decide +kernel | exact plainFor_of_name (by simp [plainName, overriddenIn])) (fun m => ef12 m o q0 q1) ?_
  show GoB12 l Z n0 (Q12 Z o q0 q1 kg ks g0 g1 s0 s1 h0) h0 0 0 0 #[.val (.ref o), .val (.ref q0), .val (.ref q1), .val (.int (2 : Int32)), .unset, .unset, .unset, .unset, .unset] []
  refine OwnW.aloadN (pc' := 1) d1_0 rfl (rfl) rfl ?_
  refine OwnW.initO (a0 := a0) (pc' := 4) (W := 0) d1_1 (hw _ (List.mem_of_getElem? (i := 8) rfl)) (hw _ (List.mem_of_getElem? (i := 9) rfl)) (hw _ (List.mem_of_getElem? (i := 10) rfl)) rfl (by decide) (Nat.le_of_ble_eq_true rfl) (by decide) rfl ?_
  refine OwnW.aloadN (pc' := 5) d1_4 rfl (rfl) rfl ?_
  obtain ⟨cl1, Ar1, qk1, Sz1, Mn1, Hv1, Gf1⟩ := id A_g
  refine OwnW.alen (pc' := 6) (x := (2 : Int32)) d1_5 Ar1 (len_of Sz1 Mn1) rfl ?_
  refine OwnW.aloadN (pc' := 7) d1_6 rfl (rfl) rfl ?_
  obtain ⟨cl2, Ar2, qk2, Sz2, Mn2, Hv2, Gf2⟩ := id A_s
  refine OwnW.alen (pc' := 8) (x := (2 : Int32)) d1_7 Ar2 (len_of Sz2 Mn2) rfl ?_
  refine OwnW.icmpY (pc' := 28) d1_8 (teq (by decide)).1 (by decide) (by decide) ?_
  refine OwnW.iloadN (pc' := 29) d1_28 rfl rfl ?_
  refine OwnW.iconst (pc' := 30) (v := (1 : Int32)) d1_29 rfl rfl ?_
  refine OwnW.iadd (pc' := 31) d1_30 rfl ?_
  show GoB12 l Z n0 (Q12 Z o q0 q1 kg ks g0 g1 s0 s1 h0) h0 0 0 31 #[.val (.ref o), .val (.ref q0), .val (.ref q1), .val (.int (2 : Int32)), .unset, .unset, .unset, .unset, .unset] [(.int (3 : Int32))]
  refine OwnW.newP (a0 := a0) (pc' := 33) (cap := 3) (k' := 1) (n' := 3) d1_31 (hw _ (List.mem_of_getElem? (i := 0) rfl)) (by decide) (by decide) (by decide) rfl rfl (by decide) (by decide) rfl ?_
  intro h3 kc3 ad3 g3 E3 A3
  have lt_o_ad3 : @LT.lt Nat _ o ad3 := Nat.lt_of_lt_of_le (E_o).lt (Nat.le_of_eq g3.symm)
  have lt_q0_ad3 : @LT.lt Nat _ q0 ad3 := Nat.lt_of_lt_of_le (A_g).lt (Nat.le_of_eq g3.symm)
  have lt_q1_ad3 : @LT.lt Nat _ q1 ad3 := Nat.lt_of_lt_of_le (A_s).lt (Nat.le_of_eq g3.symm)
  have ge_ad3 : n0 ≤ ad3 := Nat.le_trans Z0 (Nat.le_of_eq g3.symm)
  have sz_ad3 : n0 ≤ h3.size := Nat.le_trans Z0 E3.1
  have V3 : Arv Z h3 ad3 kc3 .int (3 : Int32) [(.int (0 : Int32)), (.int (0 : Int32)), (.int (0 : Int32))] (.int (0 : Int32)) := (Arv.new A3 (by decide)).pad (pad_rep [] _ 3)
  refine OwnW.astore (pc' := 35) (L' := #[.val (.ref o), .val (.ref q0), .val (.ref q1), .val (.int (2 : Int32)), .val (.ref ad3), .unset, .unset, .unset, .unset]) d1_33 (rfl) rfl rfl ?_
  refine OwnW.iconst (pc' := 36) (v := (0 : Int32)) d1_35 rfl rfl ?_
  refine OwnW.istore (pc' := 38) (L' := #[.val (.ref o), .val (.ref q0), .val (.ref q1), .val (.int (2 : Int32)), .val (.ref ad3), .val (.int (0 : Int32)), .unset, .unset, .unset]) d1_36 rfl rfl ?_
  refine OwnW.iload (pc' := 40) d1_38 rfl rfl ?_
  refine OwnW.aloadN (pc' := 41) d1_40 rfl (rfl) rfl ?_
  have F4 := (A_g.ext E3)
  obtain ⟨cl5, Ar5, qk5, Sz5, Mn5, Hv5, Gf5⟩ := id F4
  refine OwnW.alen (pc' := 42) (x := (2 : Int32)) d1_41 Ar5 (len_of Sz5 Mn5) rfl ?_
  refine OwnW.icmpN (pc' := 45) d1_42 (tlt (by decide)).2.1 rfl ?_
  refine OwnW.aloadN (pc' := 46) d1_45 rfl (rfl) rfl ?_
  refine OwnW.iload (pc' := 48) d1_46 rfl rfl ?_
  obtain ⟨cl6, Ar6, qk6, Sz6, Mn6, Hv6, Gf6⟩ := id F4
  refine OwnW.iaload (pc' := 49) (v := (.int g0)) d1_48 Ar6 (inb_of Sz6 ⟨by decide, by decide⟩) (Hv6.at (inb_of Sz6 ⟨by decide, by decide⟩) rfl) rfl ?_
  refine OwnW.ifcN (pc' := 52) d1_49 ((if0 _ _).trans (flt (own_gn hg0).1).1) rfl ?_
  refine OwnW.aloadN (pc' := 53) d1_52 rfl (rfl) rfl ?_
  refine OwnW.iload (pc' := 55) d1_53 rfl rfl ?_
  obtain ⟨cl7, Ar7, qk7, Sz7, Mn7, Hv7, Gf7⟩ := id F4
  refine OwnW.iaload (pc' := 56) (v := (.int g0)) d1_55 Ar7 (inb_of Sz7 ⟨by decide, by decide⟩) (Hv7.at (inb_of Sz7 ⟨by decide, by decide⟩) rfl) rfl ?_
  refine OwnW.iloadN (pc' := 57) d1_56 rfl rfl ?_
  refine OwnW.icmpY (pc' := 79) d1_57 (flt (own_gn hg0).2).2.2.2 (by decide) (by decide) ?_
  refine OwnW.aloadN (pc' := 80) d1_79 rfl (rfl) rfl ?_
  refine OwnW.iload (pc' := 82) d1_80 rfl rfl ?_
  have F8 := (A_s.ext E3)
  obtain ⟨cl9, Ar9, qk9, Sz9, Mn9, Hv9, Gf9⟩ := id F8
  refine OwnW.daload (pc' := 83) (v := (.double s0)) d1_82 Ar9 (inb_of Sz9 ⟨by decide, by decide⟩) (Hv9.at (inb_of Sz9 ⟨by decide, by decide⟩) rfl) rfl ?_
  refine OwnW.dconst0 (pc' := 84) (v := (0 : UInt64)) d1_83 (by decide +kernel) rfl ?_
  refine OwnW.dcmp (pc' := 85) d1_84 rfl rfl ?_
  refine OwnW.ifcN (pc' := 88) d1_85 ((if0 _ _).trans (flt (hs0).1).1) rfl ?_
  refine OwnW.aloadN (pc' := 89) d1_88 rfl (rfl) rfl ?_
  refine OwnW.iload (pc' := 91) d1_89 rfl rfl ?_
  obtain ⟨cl10, Ar10, qk10, Sz10, Mn10, Hv10, Gf10⟩ := id F8
  refine OwnW.daload (pc' := 92) (v := (.double s0)) d1_91 Ar10 (inb_of Sz10 ⟨by decide, by decide⟩) (Hv10.at (inb_of Sz10 ⟨by decide, by decide⟩) rfl) rfl ?_
  refine OwnW.dconst1 (pc' := 93) (v := (4607182418800017408 : UInt64)) d1_92 (by decide +kernel) rfl ?_
  refine OwnW.dcmp (pc' := 94) d1_93 rfl rfl ?_
  refine OwnW.ifcN (pc' := 97) d1_94 ((if0 _ _).trans (flt (hs0).2.1).2.2.1) rfl ?_
  refine OwnW.aloadN (pc' := 98) d1_97 rfl (rfl) rfl ?_
  refine OwnW.iload (pc' := 100) d1_98 rfl rfl ?_
  obtain ⟨cl11, Ar11, qk11, Sz11, Mn11, Hv11, Gf11⟩ := id F4
  refine OwnW.iaload (pc' := 101) (v := (.int g0)) d1_100 Ar11 (inb_of Sz11 ⟨by decide, by decide⟩) (Hv11.at (inb_of Sz11 ⟨by decide, by decide⟩) rfl) rfl ?_
  suffices J101_132 : GoB12 l Z n0 (Q12 Z o q0 q1 kg ks g0 g1 s0 s1 h0) h3 1 3 132 #[.val (.ref o), .val (.ref q0), .val (.ref q1), .val (.int (2 : Int32)), .val (.ref ad3), .val (.int (0 : Int32)), .unset, .unset, .unset] [] by
    by_cases hc101 : g0 = (0 : Int32)
    ·
      refine OwnW.ifcN (pc' := 104) d1_101 ((if0 _ _).trans (teq hc101).2) rfl ?_
      refine OwnW.aloadN (pc' := 105) d1_104 rfl (rfl) rfl ?_
      refine OwnW.iload (pc' := 107) d1_105 rfl rfl ?_
      obtain ⟨cl13, Ar13, qk13, Sz13, Mn13, Hv13, Gf13⟩ := id F8
      refine OwnW.daload (pc' := 108) (v := (.double s0)) d1_107 Ar13 (inb_of Sz13 ⟨by decide, by decide⟩) (Hv13.at (inb_of Sz13 ⟨by decide, by decide⟩) rfl) rfl ?_
      refine OwnW.dconst0 (pc' := 109) (v := (0 : UInt64)) d1_108 (by decide +kernel) rfl ?_
      refine OwnW.dcmp (pc' := 110) d1_109 rfl rfl ?_
      refine OwnW.ifcY (pc' := 132) d1_110 ((if0 _ _).trans (teq ((hs0).2.2 hc101)).1) (by decide) (by decide) ?_
      exact J101_132
    ·
      refine OwnW.ifcY (pc' := 132) d1_101 ((if0 _ _).trans (feq hc101).2) (by decide) (by decide) ?_
      exact J101_132
  refine OwnW.aload (pc' := 134) d1_132 rfl (rfl) rfl ?_
  refine OwnW.aloadN (pc' := 135) d1_134 rfl (rfl) rfl ?_
  refine OwnW.iload (pc' := 137) d1_135 rfl rfl ?_
  obtain ⟨cl14, Ar14, qk14, Sz14, Mn14, Hv14, Gf14⟩ := id F4
  refine OwnW.iaload (pc' := 138) (v := (.int g0)) d1_137 Ar14 (inb_of Sz14 ⟨by decide, by decide⟩) (Hv14.at (inb_of Sz14 ⟨by decide, by decide⟩) rfl) rfl ?_
  refine OwnW.dup2 (pc' := 139) d1_138 rfl rfl rfl ?_
  obtain ⟨C15, hC15⟩ : ∃ z : List Int32, z = [(0 : Int32), (0 : Int32), (0 : Int32)] := ⟨_, rfl⟩
  have VC15 : Arv Z h3 ad3 kc3 .int (3 : Int32) (C15.map Value.int) (.int (0 : Int32)) := by rw [hC15]; exact V3
  have lC15 : C15.length = 3 := by rw [hC15]; rfl
  obtain ⟨cl16, Ar16, qk16, Sz16, Mn16, Hv16, Gf16⟩ := id VC15
  refine OwnW.iaload (pc' := 140) (v := .int (C15.getD g0.toNatClampNeg 0)) d1_139 Ar16 (inb_of Sz16 (own_bd hg0)) (Hv16.at (inb_of Sz16 (own_bd hg0)) (own_gd C15 g0.toNatClampNeg)) rfl ?_
  show GoB12 l Z n0 (Q12 Z o q0 q1 kg ks g0 g1 s0 s1 h0) h3 1 3 140 #[.val (.ref o), .val (.ref q0), .val (.ref q1), .val (.int (2 : Int32)), .val (.ref ad3), .val (.int (0 : Int32)), .unset, .unset, .unset] [(.int (C15.getD g0.toNatClampNeg 0)), (.int g0), (.ref ad3)]
  refine OwnW.iconst (pc' := 141) (v := (1 : Int32)) d1_140 rfl rfl ?_
  refine OwnW.iadd (pc' := 142) d1_141 rfl ?_
  obtain ⟨cl17, Ar17, qk17, Sz17, Mn17, Hv17, Gf17⟩ := id VC15
  refine OwnW.stI (pc' := 143) d1_142 Ar17 (inb_of Sz17 (own_bd hg0)) ge_ad3 rfl ?_
  intro h17 W17
  have sz19 : n0 ≤ h17.size := (by rw [W17.size]; exact sz_ad3)
  obtain ⟨C18, hC18⟩ : ∃ z : List Int32, z = (C15.set g0.toNatClampNeg ((C15.getD g0.toNatClampNeg 0) + (1 : Int32))) := ⟨_, rfl⟩
  have VC18 : Arv Z h17 ad3 kc3 .int (3 : Int32) (C18.map Value.int) (.int (0 : Int32)) := by rw [hC18, List.map_set]; exact Arv.set Ar17 qk17 Sz17 Mn17 Hv17 Gf17 rfl W17 g0.toNatClampNeg rfl (own_ln (z := (3 : Int32)) lC15 (own_bd hg0))
  have lC18 : C18.length = 3 := by rw [hC18, List.length_set]; exact lC15
  show GoB12 l Z n0 (Q12 Z o q0 q1 kg ks g0 g1 s0 s1 h0) h17 1 3 143 #[.val (.ref o), .val (.ref q0), .val (.ref q1), .val (.int (2 : Int32)), .val (.ref ad3), .val (.int (0 : Int32)), .unset, .unset, .unset] []
  refine OwnW.iinc (pc' := 146) (L' := #[.val (.ref o), .val (.ref q0), .val (.ref q1), .val (.int (2 : Int32)), .val (.ref ad3), .val (.int (1 : Int32)), .unset, .unset, .unset]) (d := (1 : Int32)) d1_143 rfl rfl rfl rfl ?_
  refine OwnW.goto (pc' := 38) d1_146 (by decide) (by decide) ?_
  refine OwnW.iload (pc' := 40) d1_38 rfl rfl ?_
  refine OwnW.aloadN (pc' := 41) d1_40 rfl (rfl) rfl ?_
  have F20 := (F4.other W17 (Nat.ne_of_lt lt_q0_ad3))
  obtain ⟨cl21, Ar21, qk21, Sz21, Mn21, Hv21, Gf21⟩ := id F20
  refine OwnW.alen (pc' := 42) (x := (2 : Int32)) d1_41 Ar21 (len_of Sz21 Mn21) rfl ?_
  refine OwnW.icmpN (pc' := 45) d1_42 (tlt (by decide)).2.1 rfl ?_
  refine OwnW.aloadN (pc' := 46) d1_45 rfl (rfl) rfl ?_
  refine OwnW.iload (pc' := 48) d1_46 rfl rfl ?_
  obtain ⟨cl22, Ar22, qk22, Sz22, Mn22, Hv22, Gf22⟩ := id F20
  refine OwnW.iaload (pc' := 49) (v := (.int g1)) d1_48 Ar22 (inb_of Sz22 ⟨by decide, by decide⟩) (Hv22.at (inb_of Sz22 ⟨by decide, by decide⟩) rfl) rfl ?_
  refine OwnW.ifcN (pc' := 52) d1_49 ((if0 _ _).trans (flt (own_gn hg1).1).1) rfl ?_
  refine OwnW.aloadN (pc' := 53) d1_52 rfl (rfl) rfl ?_
  refine OwnW.iload (pc' := 55) d1_53 rfl rfl ?_
  obtain ⟨cl23, Ar23, qk23, Sz23, Mn23, Hv23, Gf23⟩ := id F20
  refine OwnW.iaload (pc' := 56) (v := (.int g1)) d1_55 Ar23 (inb_of Sz23 ⟨by decide, by decide⟩) (Hv23.at (inb_of Sz23 ⟨by decide, by decide⟩) rfl) rfl ?_
  refine OwnW.iloadN (pc' := 57) d1_56 rfl rfl ?_
  refine OwnW.icmpY (pc' := 79) d1_57 (flt (own_gn hg1).2).2.2.2 (by decide) (by decide) ?_
  refine OwnW.aloadN (pc' := 80) d1_79 rfl (rfl) rfl ?_
  refine OwnW.iload (pc' := 82) d1_80 rfl rfl ?_
  have F24 := (F8.other W17 (Nat.ne_of_lt lt_q1_ad3))
  obtain ⟨cl25, Ar25, qk25, Sz25, Mn25, Hv25, Gf25⟩ := id F24
  refine OwnW.daload (pc' := 83) (v := (.double s1)) d1_82 Ar25 (inb_of Sz25 ⟨by decide, by decide⟩) (Hv25.at (inb_of Sz25 ⟨by decide, by decide⟩) rfl) rfl ?_
  refine OwnW.dconst0 (pc' := 84) (v := (0 : UInt64)) d1_83 (by decide +kernel) rfl ?_
  refine OwnW.dcmp (pc' := 85) d1_84 rfl rfl ?_
  refine OwnW.ifcN (pc' := 88) d1_85 ((if0 _ _).trans (flt (hs1).1).1) rfl ?_
  refine OwnW.aloadN (pc' := 89) d1_88 rfl (rfl) rfl ?_
  refine OwnW.iload (pc' := 91) d1_89 rfl rfl ?_
  obtain ⟨cl26, Ar26, qk26, Sz26, Mn26, Hv26, Gf26⟩ := id F24
  refine OwnW.daload (pc' := 92) (v := (.double s1)) d1_91 Ar26 (inb_of Sz26 ⟨by decide, by decide⟩) (Hv26.at (inb_of Sz26 ⟨by decide, by decide⟩) rfl) rfl ?_
  refine OwnW.dconst1 (pc' := 93) (v := (4607182418800017408 : UInt64)) d1_92 (by decide +kernel) rfl ?_
  refine OwnW.dcmp (pc' := 94) d1_93 rfl rfl ?_
  refine OwnW.ifcN (pc' := 97) d1_94 ((if0 _ _).trans (flt (hs1).2.1).2.2.1) rfl ?_
  refine OwnW.aloadN (pc' := 98) d1_97 rfl (rfl) rfl ?_
  refine OwnW.iload (pc' := 100) d1_98 rfl rfl ?_
  obtain ⟨cl27, Ar27, qk27, Sz27, Mn27, Hv27, Gf27⟩ := id F20
  refine OwnW.iaload (pc' := 101) (v := (.int g1)) d1_100 Ar27 (inb_of Sz27 ⟨by decide, by decide⟩) (Hv27.at (inb_of Sz27 ⟨by decide, by decide⟩) rfl) rfl ?_
  suffices J101_132 : GoB12 l Z n0 (Q12 Z o q0 q1 kg ks g0 g1 s0 s1 h0) h17 1 3 132 #[.val (.ref o), .val (.ref q0), .val (.ref q1), .val (.int (2 : Int32)), .val (.ref ad3), .val (.int (1 : Int32)), .unset, .unset, .unset] [] by
    by_cases hc101 : g1 = (0 : Int32)
    ·
      refine OwnW.ifcN (pc' := 104) d1_101 ((if0 _ _).trans (teq hc101).2) rfl ?_
      refine OwnW.aloadN (pc' := 105) d1_104 rfl (rfl) rfl ?_
      refine OwnW.iload (pc' := 107) d1_105 rfl rfl ?_
      obtain ⟨cl29, Ar29, qk29, Sz29, Mn29, Hv29, Gf29⟩ := id F24
      refine OwnW.daload (pc' := 108) (v := (.double s1)) d1_107 Ar29 (inb_of Sz29 ⟨by decide, by decide⟩) (Hv29.at (inb_of Sz29 ⟨by decide, by decide⟩) rfl) rfl ?_
      refine OwnW.dconst0 (pc' := 109) (v := (0 : UInt64)) d1_108 (by decide +kernel) rfl ?_
      refine OwnW.dcmp (pc' := 110) d1_109 rfl rfl ?_
      refine OwnW.ifcY (pc' := 132) d1_110 ((if0 _ _).trans (teq ((hs1).2.2 hc101)).1) (by decide) (by decide) ?_
      exact J101_132
    ·
      refine OwnW.ifcY (pc' := 132) d1_101 ((if0 _ _).trans (feq hc101).2) (by decide) (by decide) ?_
      exact J101_132
  refine OwnW.aload (pc' := 134) d1_132 rfl (rfl) rfl ?_
  refine OwnW.aloadN (pc' := 135) d1_134 rfl (rfl) rfl ?_
  refine OwnW.iload (pc' := 137) d1_135 rfl rfl ?_
  obtain ⟨cl30, Ar30, qk30, Sz30, Mn30, Hv30, Gf30⟩ := id F20
  refine OwnW.iaload (pc' := 138) (v := (.int g1)) d1_137 Ar30 (inb_of Sz30 ⟨by decide, by decide⟩) (Hv30.at (inb_of Sz30 ⟨by decide, by decide⟩) rfl) rfl ?_
  refine OwnW.dup2 (pc' := 139) d1_138 rfl rfl rfl ?_
  obtain ⟨cl31, Ar31, qk31, Sz31, Mn31, Hv31, Gf31⟩ := id VC18
  refine OwnW.iaload (pc' := 140) (v := .int (C18.getD g1.toNatClampNeg 0)) d1_139 Ar31 (inb_of Sz31 (own_bd hg1)) (Hv31.at (inb_of Sz31 (own_bd hg1)) (own_gd C18 g1.toNatClampNeg)) rfl ?_
  show GoB12 l Z n0 (Q12 Z o q0 q1 kg ks g0 g1 s0 s1 h0) h17 1 3 140 #[.val (.ref o), .val (.ref q0), .val (.ref q1), .val (.int (2 : Int32)), .val (.ref ad3), .val (.int (1 : Int32)), .unset, .unset, .unset] [(.int (C18.getD g1.toNatClampNeg 0)), (.int g1), (.ref ad3)]
  refine OwnW.iconst (pc' := 141) (v := (1 : Int32)) d1_140 rfl rfl ?_
  refine OwnW.iadd (pc' := 142) d1_141 rfl ?_
  obtain ⟨cl32, Ar32, qk32, Sz32, Mn32, Hv32, Gf32⟩ := id VC18
  refine OwnW.stI (pc' := 143) d1_142 Ar32 (inb_of Sz32 (own_bd hg1)) ge_ad3 rfl ?_
  intro h32 W32
  have sz34 : n0 ≤ h32.size := (by rw [W32.size]; exact sz19)
  obtain ⟨C33, hC33⟩ : ∃ z : List Int32, z = (C18.set g1.toNatClampNeg ((C18.getD g1.toNatClampNeg 0) + (1 : Int32))) := ⟨_, rfl⟩
  have VC33 : Arv Z h32 ad3 kc3 .int (3 : Int32) (C33.map Value.int) (.int (0 : Int32)) := by rw [hC33, List.map_set]; exact Arv.set Ar32 qk32 Sz32 Mn32 Hv32 Gf32 rfl W32 g1.toNatClampNeg rfl (own_ln (z := (3 : Int32)) lC18 (own_bd hg1))
  have lC33 : C33.length = 3 := by rw [hC33, List.length_set]; exact lC18
  show GoB12 l Z n0 (Q12 Z o q0 q1 kg ks g0 g1 s0 s1 h0) h32 1 3 143 #[.val (.ref o), .val (.ref q0), .val (.ref q1), .val (.int (2 : Int32)), .val (.ref ad3), .val (.int (1 : Int32)), .unset, .unset, .unset] []
  refine OwnW.iinc (pc' := 146) (L' := #[.val (.ref o), .val (.ref q0), .val (.ref q1), .val (.int (2 : Int32)), .val (.ref ad3), .val (.int (2 : Int32)), .unset, .unset, .unset]) (d := (1 : Int32)) d1_143 rfl rfl rfl rfl ?_
  refine OwnW.goto (pc' := 38) d1_146 (by decide) (by decide) ?_
  refine OwnW.iload (pc' := 40) d1_38 rfl rfl ?_
  refine OwnW.aloadN (pc' := 41) d1_40 rfl (rfl) rfl ?_
  have F35 := (F20.other W32 (Nat.ne_of_lt lt_q0_ad3))
  obtain ⟨cl36, Ar36, qk36, Sz36, Mn36, Hv36, Gf36⟩ := id F35
  refine OwnW.alen (pc' := 42) (x := (2 : Int32)) d1_41 Ar36 (len_of Sz36 Mn36) rfl ?_
  refine OwnW.icmpY (pc' := 149) d1_42 (flt (by decide)).2.1 (by decide) (by decide) ?_
  refine OwnW.iloadN (pc' := 150) d1_149 rfl rfl ?_
  refine OwnW.iconst (pc' := 151) (v := (2 : Int32)) d1_150 rfl rfl ?_
  refine OwnW.iadd (pc' := 152) d1_151 rfl ?_
  show GoB12 l Z n0 (Q12 Z o q0 q1 kg ks g0 g1 s0 s1 h0) h32 1 3 152 #[.val (.ref o), .val (.ref q0), .val (.ref q1), .val (.int (2 : Int32)), .val (.ref ad3), .val (.int (2 : Int32)), .unset, .unset, .unset] [(.int (4 : Int32))]
  refine OwnW.newP (a0 := a0) (pc' := 154) (cap := 4) (k' := 2) (n' := 7) d1_152 (hw _ (List.mem_of_getElem? (i := 0) rfl)) (by decide) (by decide) (by decide) rfl rfl (by decide) (by decide) rfl ?_
  intro h37 kc37 ad37 g37 E37 A37
  have lt_o_ad37 : @LT.lt Nat _ o ad37 := Nat.lt_of_lt_of_le ((((E_o.ext E3).wr W17).wr W32)).lt (Nat.le_of_eq g37.symm)
  have lt_q0_ad37 : @LT.lt Nat _ q0 ad37 := Nat.lt_of_lt_of_le (F35).lt (Nat.le_of_eq g37.symm)
  have lt_q1_ad37 : @LT.lt Nat _ q1 ad37 := Nat.lt_of_lt_of_le ((F24.other W32 (Nat.ne_of_lt lt_q1_ad3))).lt (Nat.le_of_eq g37.symm)
  have lt_ad3_ad37 : @LT.lt Nat _ ad3 ad37 := Nat.lt_of_lt_of_le (VC33).lt (Nat.le_of_eq g37.symm)
  have ge_ad37 : n0 ≤ ad37 := Nat.le_trans sz34 (Nat.le_of_eq g37.symm)
  have sz_ad37 : n0 ≤ h37.size := Nat.le_trans sz34 E37.1
  have V37 : Arv Z h37 ad37 kc37 .int (4 : Int32) [(.int (0 : Int32)), (.int (0 : Int32)), (.int (0 : Int32)), (.int (0 : Int32))] (.int (0 : Int32)) := (Arv.new A37 (by decide)).pad (pad_rep [] _ 4)
  refine OwnW.astore (pc' := 156) (L' := #[.val (.ref o), .val (.ref q0), .val (.ref q1), .val (.int (2 : Int32)), .val (.ref ad3), .val (.ref ad37), .unset, .unset, .unset]) d1_154 (rfl) rfl rfl ?_
  refine OwnW.iconst (pc' := 157) (v := (1 : Int32)) d1_156 rfl rfl ?_
  refine OwnW.istore (pc' := 159) (L' := #[.val (.ref o), .val (.ref q0), .val (.ref q1), .val (.int (2 : Int32)), .val (.ref ad3), .val (.ref ad37), .val (.int (1 : Int32)), .unset, .unset]) d1_157 rfl rfl ?_
  refine OwnW.iload (pc' := 161) d1_159 rfl rfl ?_
  refine OwnW.iloadN (pc' := 162) d1_161 rfl rfl ?_
  refine OwnW.icmpN (pc' := 165) d1_162 (flt (by decide)).2.2.1 rfl ?_
  refine OwnW.aload (pc' := 167) d1_165 rfl (rfl) rfl ?_
  refine OwnW.iload (pc' := 169) d1_167 rfl rfl ?_
  refine OwnW.iconst (pc' := 170) (v := (1 : Int32)) d1_169 rfl rfl ?_
  refine OwnW.iadd (pc' := 171) d1_170 rfl ?_
  show GoB12 l Z n0 (Q12 Z o q0 q1 kg ks g0 g1 s0 s1 h0) h37 2 7 171 #[.val (.ref o), .val (.ref q0), .val (.ref q1), .val (.int (2 : Int32)), .val (.ref ad3), .val (.ref ad37), .val (.int (1 : Int32)), .unset, .unset] [(.int (2 : Int32)), (.ref ad37)]
  refine OwnW.aload (pc' := 173) d1_171 rfl (rfl) rfl ?_
  refine OwnW.iload (pc' := 175) d1_173 rfl rfl ?_
  obtain ⟨C38, hC38⟩ : ∃ z : List Int32, z = [(0 : Int32), (0 : Int32), (0 : Int32), (0 : Int32)] := ⟨_, rfl⟩
  have VC38 : Arv Z h37 ad37 kc37 .int (4 : Int32) (C38.map Value.int) (.int (0 : Int32)) := by rw [hC38]; exact V37
  have lC38 : C38.length = 4 := by rw [hC38]; rfl
  obtain ⟨cl39, Ar39, qk39, Sz39, Mn39, Hv39, Gf39⟩ := id VC38
  refine OwnW.iaload (pc' := 176) (v := .int (C38.getD 1 0)) d1_175 Ar39 (inb_of Sz39 ⟨by decide, by decide⟩) (Hv39.at (inb_of Sz39 ⟨by decide, by decide⟩) (own_gd C38 1)) rfl ?_
  show GoB12 l Z n0 (Q12 Z o q0 q1 kg ks g0 g1 s0 s1 h0) h37 2 7 176 #[.val (.ref o), .val (.ref q0), .val (.ref q1), .val (.int (2 : Int32)), .val (.ref ad3), .val (.ref ad37), .val (.int (1 : Int32)), .unset, .unset] [(.int (C38.getD 1 0)), (.int (2 : Int32)), (.ref ad37)]
  refine OwnW.aload (pc' := 178) d1_176 rfl (rfl) rfl ?_
  refine OwnW.iload (pc' := 180) d1_178 rfl rfl ?_
  have F40 := (VC33.ext E37)
  obtain ⟨cl41, Ar41, qk41, Sz41, Mn41, Hv41, Gf41⟩ := id F40
  refine OwnW.iaload (pc' := 181) (v := .int (C33.getD 1 0)) d1_180 Ar41 (inb_of Sz41 ⟨by decide, by decide⟩) (Hv41.at (inb_of Sz41 ⟨by decide, by decide⟩) (own_gd C33 1)) rfl ?_
  show GoB12 l Z n0 (Q12 Z o q0 q1 kg ks g0 g1 s0 s1 h0) h37 2 7 181 #[.val (.ref o), .val (.ref q0), .val (.ref q1), .val (.int (2 : Int32)), .val (.ref ad3), .val (.ref ad37), .val (.int (1 : Int32)), .unset, .unset] [(.int (C33.getD 1 0)), (.int (C38.getD 1 0)), (.int (2 : Int32)), (.ref ad37)]
  refine OwnW.iadd (pc' := 182) d1_181 rfl ?_
  obtain ⟨cl42, Ar42, qk42, Sz42, Mn42, Hv42, Gf42⟩ := id VC38
  refine OwnW.stI (pc' := 183) d1_182 Ar42 (inb_of Sz42 ⟨by decide, by decide⟩) ge_ad37 rfl ?_
  intro h42 W42
  have sz44 : n0 ≤ h42.size := (by rw [W42.size]; exact sz_ad37)
  obtain ⟨C43, hC43⟩ : ∃ z : List Int32, z = (C38.set 2 ((C38.getD 1 0) + (C33.getD 1 0))) := ⟨_, rfl⟩
  have VC43 : Arv Z h42 ad37 kc37 .int (4 : Int32) (C43.map Value.int) (.int (0 : Int32)) := by rw [hC43, List.map_set]; exact Arv.set Ar42 qk42 Sz42 Mn42 Hv42 Gf42 rfl W42 2 rfl (by rw [List.length_map, lC38]; decide)
  have lC43 : C43.length = 4 := by rw [hC43, List.length_set]; exact lC38
  show GoB12 l Z n0 (Q12 Z o q0 q1 kg ks g0 g1 s0 s1 h0) h42 2 7 183 #[.val (.ref o), .val (.ref q0), .val (.ref q1), .val (.int (2 : Int32)), .val (.ref ad3), .val (.ref ad37), .val (.int (1 : Int32)), .unset, .unset] []
  refine OwnW.iinc (pc' := 186) (L' := #[.val (.ref o), .val (.ref q0), .val (.ref q1), .val (.int (2 : Int32)), .val (.ref ad3), .val (.ref ad37), .val (.int (2 : Int32)), .unset, .unset]) (d := (1 : Int32)) d1_183 rfl rfl rfl rfl ?_
  refine OwnW.goto (pc' := 159) d1_186 (by decide) (by decide) ?_
  refine OwnW.iload (pc' := 161) d1_159 rfl rfl ?_
  refine OwnW.iloadN (pc' := 162) d1_161 rfl rfl ?_
  refine OwnW.icmpN (pc' := 165) d1_162 (flt (by decide)).2.2.1 rfl ?_
  refine OwnW.aload (pc' := 167) d1_165 rfl (rfl) rfl ?_
  refine OwnW.iload (pc' := 169) d1_167 rfl rfl ?_
  refine OwnW.iconst (pc' := 170) (v := (1 : Int32)) d1_169 rfl rfl ?_
  refine OwnW.iadd (pc' := 171) d1_170 rfl ?_
  show GoB12 l Z n0 (Q12 Z o q0 q1 kg ks g0 g1 s0 s1 h0) h42 2 7 171 #[.val (.ref o), .val (.ref q0), .val (.ref q1), .val (.int (2 : Int32)), .val (.ref ad3), .val (.ref ad37), .val (.int (2 : Int32)), .unset, .unset] [(.int (3 : Int32)), (.ref ad37)]
  refine OwnW.aload (pc' := 173) d1_171 rfl (rfl) rfl ?_
  refine OwnW.iload (pc' := 175) d1_173 rfl rfl ?_
  obtain ⟨cl45, Ar45, qk45, Sz45, Mn45, Hv45, Gf45⟩ := id VC43
  refine OwnW.iaload (pc' := 176) (v := .int (C43.getD 2 0)) d1_175 Ar45 (inb_of Sz45 ⟨by decide, by decide⟩) (Hv45.at (inb_of Sz45 ⟨by decide, by decide⟩) (own_gd C43 2)) rfl ?_
  show GoB12 l Z n0 (Q12 Z o q0 q1 kg ks g0 g1 s0 s1 h0) h42 2 7 176 #[.val (.ref o), .val (.ref q0), .val (.ref q1), .val (.int (2 : Int32)), .val (.ref ad3), .val (.ref ad37), .val (.int (2 : Int32)), .unset, .unset] [(.int (C43.getD 2 0)), (.int (3 : Int32)), (.ref ad37)]
  refine OwnW.aload (pc' := 178) d1_176 rfl (rfl) rfl ?_
  refine OwnW.iload (pc' := 180) d1_178 rfl rfl ?_
  have F46 := (F40.other W42 (Nat.ne_of_lt lt_ad3_ad37))
  obtain ⟨cl47, Ar47, qk47, Sz47, Mn47, Hv47, Gf47⟩ := id F46
  refine OwnW.iaload (pc' := 181) (v := .int (C33.getD 2 0)) d1_180 Ar47 (inb_of Sz47 ⟨by decide, by decide⟩) (Hv47.at (inb_of Sz47 ⟨by decide, by decide⟩) (own_gd C33 2)) rfl ?_
  show GoB12 l Z n0 (Q12 Z o q0 q1 kg ks g0 g1 s0 s1 h0) h42 2 7 181 #[.val (.ref o), .val (.ref q0), .val (.ref q1), .val (.int (2 : Int32)), .val (.ref ad3), .val (.ref ad37), .val (.int (2 : Int32)), .unset, .unset] [(.int (C33.getD 2 0)), (.int (C43.getD 2 0)), (.int (3 : Int32)), (.ref ad37)]
  refine OwnW.iadd (pc' := 182) d1_181 rfl ?_
  obtain ⟨cl48, Ar48, qk48, Sz48, Mn48, Hv48, Gf48⟩ := id VC43
  refine OwnW.stI (pc' := 183) d1_182 Ar48 (inb_of Sz48 ⟨by decide, by decide⟩) ge_ad37 rfl ?_
  intro h48 W48
  have sz50 : n0 ≤ h48.size := (by rw [W48.size]; exact sz44)
  obtain ⟨C49, hC49⟩ : ∃ z : List Int32, z = (C43.set 3 ((C43.getD 2 0) + (C33.getD 2 0))) := ⟨_, rfl⟩
  have VC49 : Arv Z h48 ad37 kc37 .int (4 : Int32) (C49.map Value.int) (.int (0 : Int32)) := by rw [hC49, List.map_set]; exact Arv.set Ar48 qk48 Sz48 Mn48 Hv48 Gf48 rfl W48 3 rfl (by rw [List.length_map, lC43]; decide)
  have lC49 : C49.length = 4 := by rw [hC49, List.length_set]; exact lC43
  show GoB12 l Z n0 (Q12 Z o q0 q1 kg ks g0 g1 s0 s1 h0) h48 2 7 183 #[.val (.ref o), .val (.ref q0), .val (.ref q1), .val (.int (2 : Int32)), .val (.ref ad3), .val (.ref ad37), .val (.int (2 : Int32)), .unset, .unset] []
  refine OwnW.iinc (pc' := 186) (L' := #[.val (.ref o), .val (.ref q0), .val (.ref q1), .val (.int (2 : Int32)), .val (.ref ad3), .val (.ref ad37), .val (.int (3 : Int32)), .unset, .unset]) (d := (1 : Int32)) d1_183 rfl rfl rfl rfl ?_
  refine OwnW.goto (pc' := 159) d1_186 (by decide) (by decide) ?_
  refine OwnW.iload (pc' := 161) d1_159 rfl rfl ?_
  refine OwnW.iloadN (pc' := 162) d1_161 rfl rfl ?_
  refine OwnW.icmpY (pc' := 189) d1_162 (tlt (by decide)).2.2.1 (by decide) (by decide) ?_
  refine OwnW.aload (pc' := 191) d1_189 rfl (rfl) rfl ?_
  refine OwnW.iloadN (pc' := 192) d1_191 rfl rfl ?_
  refine OwnW.iconst (pc' := 193) (v := (1 : Int32)) d1_192 rfl rfl ?_
  refine OwnW.iadd (pc' := 194) d1_193 rfl ?_
  show GoB12 l Z n0 (Q12 Z o q0 q1 kg ks g0 g1 s0 s1 h0) h48 2 7 194 #[.val (.ref o), .val (.ref q0), .val (.ref q1), .val (.int (2 : Int32)), .val (.ref ad3), .val (.ref ad37), .val (.int (3 : Int32)), .unset, .unset] [(.int (3 : Int32)), (.ref ad37)]
  obtain ⟨cl51, Ar51, qk51, Sz51, Mn51, Hv51, Gf51⟩ := id VC49
  refine OwnW.iaload (pc' := 195) (v := .int (C49.getD 3 0)) d1_194 Ar51 (inb_of Sz51 ⟨by decide, by decide⟩) (Hv51.at (inb_of Sz51 ⟨by decide, by decide⟩) (own_gd C49 3)) rfl ?_
  show GoB12 l Z n0 (Q12 Z o q0 q1 kg ks g0 g1 s0 s1 h0) h48 2 7 195 #[.val (.ref o), .val (.ref q0), .val (.ref q1), .val (.int (2 : Int32)), .val (.ref ad3), .val (.ref ad37), .val (.int (3 : Int32)), .unset, .unset] [(.int (C49.getD 3 0))]
  obtain ⟨tt, htt⟩ : ∃ z, z = (C49.getD 3 0) := ⟨_, rfl⟩
  rw [← htt]
  show GoB12 l Z n0 (Q12 Z o q0 q1 kg ks g0 g1 s0 s1 h0) h48 2 7 195 #[.val (.ref o), .val (.ref q0), .val (.ref q1), .val (.int (2 : Int32)), .val (.ref ad3), .val (.ref ad37), .val (.int (3 : Int32)), .unset, .unset] [(.int tt)]
  have ht2 := own_tt2 hg0 hg1 hC15 hC18 hC33 hC38 hC43 hC49 htt
  refine OwnW.newP (a0 := a0) (pc' := 197) (cap := 2) (k' := 3) (n' := 9) d1_195 (hw _ (List.mem_of_getElem? (i := 0) rfl)) ht2.1 ht2.2 (by decide) rfl rfl (by decide) (by decide) rfl ?_
  intro hm km am gm Em Am
  have lt_o_am : @LT.lt Nat _ o am := Nat.lt_of_lt_of_le (((((((E_o.ext E3).wr W17).wr W32).ext E37).wr W42).wr W48)).lt (Nat.le_of_eq gm.symm)
  have lt_q0_am : @LT.lt Nat _ q0 am := Nat.lt_of_lt_of_le ((((F35.ext E37).other W42 (Nat.ne_of_lt lt_q0_ad37)).other W48 (Nat.ne_of_lt lt_q0_ad37))).lt (Nat.le_of_eq gm.symm)
  have lt_q1_am : @LT.lt Nat _ q1 am := Nat.lt_of_lt_of_le (((((F24.other W32 (Nat.ne_of_lt lt_q1_ad3)).ext E37).other W42 (Nat.ne_of_lt lt_q1_ad37)).other W48 (Nat.ne_of_lt lt_q1_ad37))).lt (Nat.le_of_eq gm.symm)
  have lt_ad3_am : @LT.lt Nat _ ad3 am := Nat.lt_of_lt_of_le ((F46.other W48 (Nat.ne_of_lt lt_ad3_ad37))).lt (Nat.le_of_eq gm.symm)
  have lt_ad37_am : @LT.lt Nat _ ad37 am := Nat.lt_of_lt_of_le (VC49).lt (Nat.le_of_eq gm.symm)
  have ge_am : n0 ≤ am := Nat.le_trans sz50 (Nat.le_of_eq gm.symm)
  have sz_am : n0 ≤ hm.size := Nat.le_trans sz50 Em.1
  have Ym : Wk Z hm am tt := ⟨_, Am, sz_new _ _ _⟩
  show GoB12 l Z n0 (Q12 Z o q0 q1 kg ks g0 g1 s0 s1 h0) hm 3 9 197 #[.val (.ref o), .val (.ref q0), .val (.ref q1), .val (.int (2 : Int32)), .val (.ref ad3), .val (.ref ad37), .val (.int (3 : Int32)), .unset, .unset] [(.ref am)]
  refine OwnW.astore (pc' := 199) (L' := #[.val (.ref o), .val (.ref q0), .val (.ref q1), .val (.int (2 : Int32)), .val (.ref ad3), .val (.ref ad37), .val (.ref am), .unset, .unset]) d1_197 (rfl) rfl rfl ?_
  refine OwnW.aload (pc' := 201) d1_199 rfl (rfl) rfl ?_
  refine OwnW.iloadN (pc' := 202) d1_201 rfl rfl ?_
  refine OwnW.iconst (pc' := 203) (v := (1 : Int32)) d1_202 rfl rfl ?_
  refine OwnW.iadd (pc' := 204) d1_203 rfl ?_
  show GoB12 l Z n0 (Q12 Z o q0 q1 kg ks g0 g1 s0 s1 h0) hm 3 9 204 #[.val (.ref o), .val (.ref q0), .val (.ref q1), .val (.int (2 : Int32)), .val (.ref ad3), .val (.ref ad37), .val (.ref am), .unset, .unset] [(.int (3 : Int32)), (.ref ad37)]
  have F52 := (VC49.ext Em)
  refine OwnW.callS (a0 := a0) (pc' := 207) (W := 0) (k' := 4) (n' := 12) (argsL := [(.ref ad37), (.int (3 : Int32))]) (rest := []) d1_204 (hw _ (List.mem_of_getElem? (i := 11) rfl)) (hw _ (List.mem_of_getElem? (i := 12) rfl)) (hw _ (List.mem_of_getElem? (i := 13) rfl)) (hw _ (List.mem_of_getElem? (i := 14) rfl)) (by decide) (rm3 l Z a0 hw ad37 kc37 C49 hm n0 sz_am F52) (by decide) (by decide) rfl rfl (by decide) (by decide) rfl pd_285bII295bI rfl rfl rfl (Nat.le_of_ble_eq_true rfl) rfl ?_
  rintro h53 v53 ⟨ad53_0, kc53_0, rfl, K53, gl53_0, Fc53_0⟩
  have lt_o_ad53_0 : @LT.lt Nat _ o ad53_0 := Nat.lt_of_lt_of_le ((((((((E_o.ext E3).wr W17).wr W32).ext E37).wr W42).wr W48).ext Em)).lt gl53_0
  have lt_q0_ad53_0 : @LT.lt Nat _ q0 ad53_0 := Nat.lt_of_lt_of_le (((((F35.ext E37).other W42 (Nat.ne_of_lt lt_q0_ad37)).other W48 (Nat.ne_of_lt lt_q0_ad37)).ext Em)).lt gl53_0
  have lt_q1_ad53_0 : @LT.lt Nat _ q1 ad53_0 := Nat.lt_of_lt_of_le ((((((F24.other W32 (Nat.ne_of_lt lt_q1_ad3)).ext E37).other W42 (Nat.ne_of_lt lt_q1_ad37)).other W48 (Nat.ne_of_lt lt_q1_ad37)).ext Em)).lt gl53_0
  have lt_ad3_ad53_0 : @LT.lt Nat _ ad3 ad53_0 := Nat.lt_of_lt_of_le (((F46.other W48 (Nat.ne_of_lt lt_ad3_ad37)).ext Em)).lt gl53_0
  have lt_ad37_ad53_0 : @LT.lt Nat _ ad37 ad53_0 := Nat.lt_of_lt_of_le (F52).lt gl53_0
  have lt_am_ad53_0 : @LT.lt Nat _ am ad53_0 := Nat.lt_of_lt_of_le (Ym).lt gl53_0
  have ge_ad53_0 : n0 ≤ ad53_0 := Nat.le_trans sz_am gl53_0
  have sz54 : n0 ≤ h53.size := Nat.le_trans sz_am K53.1
  show GoB12 l Z n0 (Q12 Z o q0 q1 kg ks g0 g1 s0 s1 h0) h53 4 12 207 #[.val (.ref o), .val (.ref q0), .val (.ref q1), .val (.int (2 : Int32)), .val (.ref ad3), .val (.ref ad37), .val (.ref am), .unset, .unset] [(.ref ad53_0)]
  refine OwnW.astore (pc' := 209) (L' := #[.val (.ref o), .val (.ref q0), .val (.ref q1), .val (.int (2 : Int32)), .val (.ref ad3), .val (.ref ad37), .val (.ref am), .val (.ref ad53_0), .unset]) d1_207 (rfl) rfl rfl ?_
  refine OwnW.iconst (pc' := 210) (v := (0 : Int32)) d1_209 rfl rfl ?_
  refine OwnW.istore (pc' := 212) (L' := #[.val (.ref o), .val (.ref q0), .val (.ref q1), .val (.int (2 : Int32)), .val (.ref ad3), .val (.ref ad37), .val (.ref am), .val (.ref ad53_0), .val (.int (0 : Int32))]) d1_210 rfl rfl ?_
  refine OwnW.iload (pc' := 214) d1_212 rfl rfl ?_
  refine OwnW.aloadN (pc' := 215) d1_214 rfl (rfl) rfl ?_
  have F55 := (((((F35.ext E37).other W42 (Nat.ne_of_lt lt_q0_ad37)).other W48 (Nat.ne_of_lt lt_q0_ad37)).ext Em).keep K53 nin0)
  obtain ⟨cl56, Ar56, qk56, Sz56, Mn56, Hv56, Gf56⟩ := id F55
  refine OwnW.alen (pc' := 216) (x := (2 : Int32)) d1_215 Ar56 (len_of Sz56 Mn56) rfl ?_
  refine OwnW.icmpN (pc' := 219) d1_216 (tlt (by decide)).2.1 rfl ?_
  refine OwnW.aloadN (pc' := 220) d1_219 rfl (rfl) rfl ?_
  refine OwnW.iload (pc' := 222) d1_220 rfl rfl ?_
  obtain ⟨cl57, Ar57, qk57, Sz57, Mn57, Hv57, Gf57⟩ := id F55
  refine OwnW.iaload (pc' := 223) (v := (.int g0)) d1_222 Ar57 (inb_of Sz57 ⟨by decide, by decide⟩) (Hv57.at (inb_of Sz57 ⟨by decide, by decide⟩) rfl) rfl ?_
  by_cases hc223 : (0 : Int32) < g0
  ·
    refine OwnW.ifcN (pc' := 226) d1_223 ((if0 _ _).trans (tlt hc223).2.2.2) rfl ?_
    refine OwnW.aload (pc' := 228) d1_226 rfl (rfl) rfl ?_
    refine OwnW.aload (pc' := 230) d1_228 rfl (rfl) rfl ?_
    refine OwnW.aloadN (pc' := 231) d1_230 rfl (rfl) rfl ?_
    refine OwnW.iload (pc' := 233) d1_231 rfl rfl ?_
    obtain ⟨cl58, Ar58, qk58, Sz58, Mn58, Hv58, Gf58⟩ := id F55
    refine OwnW.iaload (pc' := 234) (v := (.int g0)) d1_233 Ar58 (inb_of Sz58 ⟨by decide, by decide⟩) (Hv58.at (inb_of Sz58 ⟨by decide, by decide⟩) rfl) rfl ?_
    refine OwnW.dup2 (pc' := 235) d1_234 rfl rfl rfl ?_
    obtain ⟨C59, hC59⟩ : ∃ z : List Int32, z = [(C49.getD 0 0), (C49.getD 1 0), (C49.getD 2 0)] := ⟨_, rfl⟩
    have VC59 : Arv Z h53 ad53_0 kc53_0 .int (3 : Int32) (C59.map Value.int) (.int (0 : Int32)) := by rw [hC59]; exact Fc53_0
    have lC59 : C59.length = 3 := by rw [hC59]; rfl
    obtain ⟨cl60, Ar60, qk60, Sz60, Mn60, Hv60, Gf60⟩ := id VC59
    refine OwnW.iaload (pc' := 236) (v := .int (C59.getD g0.toNatClampNeg 0)) d1_235 Ar60 (inb_of Sz60 (own_bd hg0)) (Hv60.at (inb_of Sz60 (own_bd hg0)) (own_gd C59 g0.toNatClampNeg)) rfl ?_
    show GoB12 l Z n0 (Q12 Z o q0 q1 kg ks g0 g1 s0 s1 h0) h53 4 12 236 #[.val (.ref o), .val (.ref q0), .val (.ref q1), .val (.int (2 : Int32)), .val (.ref ad3), .val (.ref ad37), .val (.ref am), .val (.ref ad53_0), .val (.int (0 : Int32))] [(.int (C59.getD g0.toNatClampNeg 0)), (.int g0), (.ref ad53_0), (.ref am)]
    refine OwnW.dupX2 (pc' := 237) d1_236 rfl ?_
    refine OwnW.iconst (pc' := 238) (v := (1 : Int32)) d1_237 rfl rfl ?_
    refine OwnW.iadd (pc' := 239) d1_238 rfl ?_
    obtain ⟨cl61, Ar61, qk61, Sz61, Mn61, Hv61, Gf61⟩ := id VC59
    refine OwnW.stI (pc' := 240) d1_239 Ar61 (inb_of Sz61 (own_bd hg0)) ge_ad53_0 rfl ?_
    intro h61 W61
    have sz63 : n0 ≤ h61.size := (by rw [W61.size]; exact sz54)
    obtain ⟨C62, hC62⟩ : ∃ z : List Int32, z = (C59.set g0.toNatClampNeg ((C59.getD g0.toNatClampNeg 0) + (1 : Int32))) := ⟨_, rfl⟩
    have VC62 : Arv Z h61 ad53_0 kc53_0 .int (3 : Int32) (C62.map Value.int) (.int (0 : Int32)) := by rw [hC62, List.map_set]; exact Arv.set Ar61 qk61 Sz61 Mn61 Hv61 Gf61 rfl W61 g0.toNatClampNeg rfl (own_ln (z := (3 : Int32)) lC59 (own_bd hg0))
    have lC62 : C62.length = 3 := by rw [hC62, List.length_set]; exact lC59
    show GoB12 l Z n0 (Q12 Z o q0 q1 kg ks g0 g1 s0 s1 h0) h61 4 12 240 #[.val (.ref o), .val (.ref q0), .val (.ref q1), .val (.int (2 : Int32)), .val (.ref ad3), .val (.ref ad37), .val (.ref am), .val (.ref ad53_0), .val (.int (0 : Int32))] [(.int (C59.getD g0.toNatClampNeg 0)), (.ref am)]
    refine OwnW.iload (pc' := 242) d1_240 rfl rfl ?_
    have F65 := ((Ym.keep K53 nin0).other W61 (Nat.ne_of_lt lt_am_ad53_0))
    obtain ⟨cl64, Ar64, Sz64⟩ := id F65
    refine OwnW.stI (pc' := 243) d1_242 Ar64 (inb_of Sz64 (own_mb2_0 hg0 hg1 hC15 hC18 hC33 hC38 hC43 hC49 hC59 hC62 htt hc223)) ge_am rfl ?_
    intro h64 W64
    have sz66 : n0 ≤ h64.size := (by rw [W64.size]; exact sz63)
    have Y64 : Wk Z h64 am tt := Wk.same ⟨cl64, Ar64, Sz64⟩ W64
    show GoB12 l Z n0 (Q12 Z o q0 q1 kg ks g0 g1 s0 s1 h0) h64 4 12 243 #[.val (.ref o), .val (.ref q0), .val (.ref q1), .val (.int (2 : Int32)), .val (.ref ad3), .val (.ref ad37), .val (.ref am), .val (.ref ad53_0), .val (.int (0 : Int32))] []
    refine OwnW.iinc (pc' := 246) (L' := #[.val (.ref o), .val (.ref q0), .val (.ref q1), .val (.int (2 : Int32)), .val (.ref ad3), .val (.ref ad37), .val (.ref am), .val (.ref ad53_0), .val (.int (1 : Int32))]) (d := (1 : Int32)) d1_243 rfl rfl rfl rfl ?_
    refine OwnW.goto (pc' := 212) d1_246 (by decide) (by decide) ?_
    refine OwnW.iload (pc' := 214) d1_212 rfl rfl ?_
    refine OwnW.aloadN (pc' := 215) d1_214 rfl (rfl) rfl ?_
    have F67 := ((F55.other W61 (Nat.ne_of_lt lt_q0_ad53_0)).other W64 (Nat.ne_of_lt lt_q0_am))
    obtain ⟨cl68, Ar68, qk68, Sz68, Mn68, Hv68, Gf68⟩ := id F67
    refine OwnW.alen (pc' := 216) (x := (2 : Int32)) d1_215 Ar68 (len_of Sz68 Mn68) rfl ?_
    refine OwnW.icmpN (pc' := 219) d1_216 (tlt (by decide)).2.1 rfl ?_
    refine OwnW.aloadN (pc' := 220) d1_219 rfl (rfl) rfl ?_
    refine OwnW.iload (pc' := 222) d1_220 rfl rfl ?_
    obtain ⟨cl69, Ar69, qk69, Sz69, Mn69, Hv69, Gf69⟩ := id F67
    refine OwnW.iaload (pc' := 223) (v := (.int g1)) d1_222 Ar69 (inb_of Sz69 ⟨by decide, by decide⟩) (Hv69.at (inb_of Sz69 ⟨by decide, by decide⟩) rfl) rfl ?_
    by_cases hc223_1 : (0 : Int32) < g1
    ·
      refine OwnW.ifcN (pc' := 226) d1_223 ((if0 _ _).trans (tlt hc223_1).2.2.2) rfl ?_
      refine OwnW.aload (pc' := 228) d1_226 rfl (rfl) rfl ?_
      refine OwnW.aload (pc' := 230) d1_228 rfl (rfl) rfl ?_
      refine OwnW.aloadN (pc' := 231) d1_230 rfl (rfl) rfl ?_
      refine OwnW.iload (pc' := 233) d1_231 rfl rfl ?_
      obtain ⟨cl70, Ar70, qk70, Sz70, Mn70, Hv70, Gf70⟩ := id F67
      refine OwnW.iaload (pc' := 234) (v := (.int g1)) d1_233 Ar70 (inb_of Sz70 ⟨by decide, by decide⟩) (Hv70.at (inb_of Sz70 ⟨by decide, by decide⟩) rfl) rfl ?_
      refine OwnW.dup2 (pc' := 235) d1_234 rfl rfl rfl ?_
      have F71 := (VC62.other W64 (Ne.symm (Nat.ne_of_lt lt_am_ad53_0)))
      obtain ⟨cl72, Ar72, qk72, Sz72, Mn72, Hv72, Gf72⟩ := id F71
      refine OwnW.iaload (pc' := 236) (v := .int (C62.getD g1.toNatClampNeg 0)) d1_235 Ar72 (inb_of Sz72 (own_bd hg1)) (Hv72.at (inb_of Sz72 (own_bd hg1)) (own_gd C62 g1.toNatClampNeg)) rfl ?_
      show GoB12 l Z n0 (Q12 Z o q0 q1 kg ks g0 g1 s0 s1 h0) h64 4 12 236 #[.val (.ref o), .val (.ref q0), .val (.ref q1), .val (.int (2 : Int32)), .val (.ref ad3), .val (.ref ad37), .val (.ref am), .val (.ref ad53_0), .val (.int (1 : Int32))] [(.int (C62.getD g1.toNatClampNeg 0)), (.int g1), (.ref ad53_0), (.ref am)]
      refine OwnW.dupX2 (pc' := 237) d1_236 rfl ?_
      refine OwnW.iconst (pc' := 238) (v := (1 : Int32)) d1_237 rfl rfl ?_
      refine OwnW.iadd (pc' := 239) d1_238 rfl ?_
      obtain ⟨cl73, Ar73, qk73, Sz73, Mn73, Hv73, Gf73⟩ := id F71
      refine OwnW.stI (pc' := 240) d1_239 Ar73 (inb_of Sz73 (own_bd hg1)) ge_ad53_0 rfl ?_
      intro h73 W73
      have sz75 : n0 ≤ h73.size := (by rw [W73.size]; exact sz66)
      obtain ⟨C74, hC74⟩ : ∃ z : List Int32, z = (C62.set g1.toNatClampNeg ((C62.getD g1.toNatClampNeg 0) + (1 : Int32))) := ⟨_, rfl⟩
      have VC74 : Arv Z h73 ad53_0 kc53_0 .int (3 : Int32) (C74.map Value.int) (.int (0 : Int32)) := by rw [hC74, List.map_set]; exact Arv.set Ar73 qk73 Sz73 Mn73 Hv73 Gf73 rfl W73 g1.toNatClampNeg rfl (own_ln (z := (3 : Int32)) lC62 (own_bd hg1))
      have lC74 : C74.length = 3 := by rw [hC74, List.length_set]; exact lC62
      show GoB12 l Z n0 (Q12 Z o q0 q1 kg ks g0 g1 s0 s1 h0) h73 4 12 240 #[.val (.ref o), .val (.ref q0), .val (.ref q1), .val (.int (2 : Int32)), .val (.ref ad3), .val (.ref ad37), .val (.ref am), .val (.ref ad53_0), .val (.int (1 : Int32))] [(.int (C62.getD g1.toNatClampNeg 0)), (.ref am)]
      refine OwnW.iload (pc' := 242) d1_240 rfl rfl ?_
      have F77 := (Y64.other W73 (Nat.ne_of_lt lt_am_ad53_0))
      obtain ⟨cl76, Ar76, Sz76⟩ := id F77
      refine OwnW.stI (pc' := 243) d1_242 Ar76 (inb_of Sz76 (own_mb2_1 hg0 hg1 hC15 hC18 hC33 hC38 hC43 hC49 hC59 hC62 hC74 htt hc223 hc223_1)) ge_am rfl ?_
      intro h76 W76
      have sz78 : n0 ≤ h76.size := (by rw [W76.size]; exact sz75)
      have Y76 : Wk Z h76 am tt := Wk.same ⟨cl76, Ar76, Sz76⟩ W76
      show GoB12 l Z n0 (Q12 Z o q0 q1 kg ks g0 g1 s0 s1 h0) h76 4 12 243 #[.val (.ref o), .val (.ref q0), .val (.ref q1), .val (.int (2 : Int32)), .val (.ref ad3), .val (.ref ad37), .val (.ref am), .val (.ref ad53_0), .val (.int (1 : Int32))] []
      refine OwnW.iinc (pc' := 246) (L' := #[.val (.ref o), .val (.ref q0), .val (.ref q1), .val (.int (2 : Int32)), .val (.ref ad3), .val (.ref ad37), .val (.ref am), .val (.ref ad53_0), .val (.int (2 : Int32))]) (d := (1 : Int32)) d1_243 rfl rfl rfl rfl ?_
      refine OwnW.goto (pc' := 212) d1_246 (by decide) (by decide) ?_
      refine OwnW.iload (pc' := 214) d1_212 rfl rfl ?_
      refine OwnW.aloadN (pc' := 215) d1_214 rfl (rfl) rfl ?_
      have F79 := ((F67.other W73 (Nat.ne_of_lt lt_q0_ad53_0)).other W76 (Nat.ne_of_lt lt_q0_am))
      obtain ⟨cl80, Ar80, qk80, Sz80, Mn80, Hv80, Gf80⟩ := id F79
      refine OwnW.alen (pc' := 216) (x := (2 : Int32)) d1_215 Ar80 (len_of Sz80 Mn80) rfl ?_
      refine OwnW.icmpY (pc' := 249) d1_216 (flt (by decide)).2.1 (by decide) (by decide) ?_
      refine OwnW.aloadN (pc' := 250) d1_249 rfl (rfl) rfl ?_
      refine OwnW.aloadN (pc' := 251) d1_250 rfl (rfl) rfl ?_
      have F82 := ((((((((((((F_groups.ext E3).other W17 (Or.inl (Nat.ne_of_lt lt_o_ad3))).other W32 (Or.inl (Nat.ne_of_lt lt_o_ad3))).ext E37).other W42 (Or.inl (Nat.ne_of_lt lt_o_ad37))).other W48 (Or.inl (Nat.ne_of_lt lt_o_ad37))).ext Em).keep K53 nin0).other W61 (Or.inl (Nat.ne_of_lt lt_o_ad53_0))).other W64 (Or.inl (Nat.ne_of_lt lt_o_am))).other W73 (Or.inl (Nat.ne_of_lt lt_o_ad53_0))).other W76 (Or.inl (Nat.ne_of_lt lt_o_am)))
      have F83 := ((((((((((((E_o.ext E3).wr W17).wr W32).ext E37).wr W42).wr W48).ext Em).keep K53).wr W61).wr W64).wr W73).wr W76)
      refine OwnW.putF (a0 := a0) (pc' := 254) d1_251 (host := "") (Or.inl (hw _ (List.mem_of_getElem? (i := 23) rfl))) Via.refl F82 F83 (Or.inr ⟨(hw _ (List.mem_of_getElem? (i := 24) rfl)), rfl, rfl⟩) (hw _ (List.mem_of_getElem? (i := 3) rfl)) (ty := (.array .int)) (by decide) rfl rfl g_o rfl ?_
      intro h81 W81
      have sz84 : n0 ≤ h81.size := (by rw [W81.size]; exact sz78)
      have F85 := F82.same W81
      refine OwnW.aloadN (pc' := 255) d1_254 rfl (rfl) rfl ?_
      refine OwnW.aloadN (pc' := 256) d1_255 rfl (rfl) rfl ?_
      have F87 := (((((((((((((F_shares.ext E3).other W17 (Or.inl (Nat.ne_of_lt lt_o_ad3))).other W32 (Or.inl (Nat.ne_of_lt lt_o_ad3))).ext E37).other W42 (Or.inl (Nat.ne_of_lt lt_o_ad37))).other W48 (Or.inl (Nat.ne_of_lt lt_o_ad37))).ext Em).keep K53 nin0).other W61 (Or.inl (Nat.ne_of_lt lt_o_ad53_0))).other W64 (Or.inl (Nat.ne_of_lt lt_o_am))).other W73 (Or.inl (Nat.ne_of_lt lt_o_ad53_0))).other W76 (Or.inl (Nat.ne_of_lt lt_o_am))).other W81 (Or.inr (slot_ne (a0 := a0) (C := "com/example/sieve_for_links/sieveforlinks/VirtualLinks") (Or.inr (hw _ (List.mem_of_getElem? (i := 26) rfl))) (Or.inr (hw _ (List.mem_of_getElem? (i := 24) rfl))) (by decide) (t := (.array .double)) (t' := (.array .int)) (by decide) (by decide))))
      have F88 := (F83.wr W81)
      refine OwnW.putF (a0 := a0) (pc' := 259) d1_256 (host := "") (Or.inl (hw _ (List.mem_of_getElem? (i := 25) rfl))) Via.refl F87 F88 (Or.inr ⟨(hw _ (List.mem_of_getElem? (i := 26) rfl)), rfl, rfl⟩) (hw _ (List.mem_of_getElem? (i := 3) rfl)) (ty := (.array .double)) (by decide) rfl rfl g_o rfl ?_
      intro h86 W86
      have sz89 : n0 ≤ h86.size := (by rw [W86.size]; exact sz84)
      have F90 := F87.same W86
      refine OwnW.aloadN (pc' := 260) d1_259 rfl (rfl) rfl ?_
      refine OwnW.aload (pc' := 262) d1_260 rfl (rfl) rfl ?_
      have F92 := ((((((((((((((F_members.ext E3).other W17 (Or.inl (Nat.ne_of_lt lt_o_ad3))).other W32 (Or.inl (Nat.ne_of_lt lt_o_ad3))).ext E37).other W42 (Or.inl (Nat.ne_of_lt lt_o_ad37))).other W48 (Or.inl (Nat.ne_of_lt lt_o_ad37))).ext Em).keep K53 nin0).other W61 (Or.inl (Nat.ne_of_lt lt_o_ad53_0))).other W64 (Or.inl (Nat.ne_of_lt lt_o_am))).other W73 (Or.inl (Nat.ne_of_lt lt_o_ad53_0))).other W76 (Or.inl (Nat.ne_of_lt lt_o_am))).other W81 (Or.inr (slot_ne (a0 := a0) (C := "com/example/sieve_for_links/sieveforlinks/VirtualLinks") (Or.inr (hw _ (List.mem_of_getElem? (i := 28) rfl))) (Or.inr (hw _ (List.mem_of_getElem? (i := 24) rfl))) (by decide) (t := (.array .int)) (t' := (.array .int)) (by decide) (by decide)))).other W86 (Or.inr (slot_ne (a0 := a0) (C := "com/example/sieve_for_links/sieveforlinks/VirtualLinks") (Or.inr (hw _ (List.mem_of_getElem? (i := 28) rfl))) (Or.inr (hw _ (List.mem_of_getElem? (i := 26) rfl))) (by decide) (t := (.array .int)) (t' := (.array .double)) (by decide) (by decide))))
      have F93 := (F88.wr W86)
      refine OwnW.putF (a0 := a0) (pc' := 265) d1_262 (host := "") (Or.inl (hw _ (List.mem_of_getElem? (i := 27) rfl))) Via.refl F92 F93 (Or.inr ⟨(hw _ (List.mem_of_getElem? (i := 28) rfl)), rfl, rfl⟩) (hw _ (List.mem_of_getElem? (i := 3) rfl)) (ty := (.array .int)) (by decide) rfl rfl g_o rfl ?_
      intro h91 W91
      have sz94 : n0 ≤ h91.size := (by rw [W91.size]; exact sz89)
      have F95 := F92.same W91
      refine OwnW.aloadN (pc' := 266) d1_265 rfl (rfl) rfl ?_
      refine OwnW.aload (pc' := 268) d1_266 rfl (rfl) rfl ?_
      have F97 := (((((((((((((((F_memberStarts.ext E3).other W17 (Or.inl (Nat.ne_of_lt lt_o_ad3))).other W32 (Or.inl (Nat.ne_of_lt lt_o_ad3))).ext E37).other W42 (Or.inl (Nat.ne_of_lt lt_o_ad37))).other W48 (Or.inl (Nat.ne_of_lt lt_o_ad37))).ext Em).keep K53 nin0).other W61 (Or.inl (Nat.ne_of_lt lt_o_ad53_0))).other W64 (Or.inl (Nat.ne_of_lt lt_o_am))).other W73 (Or.inl (Nat.ne_of_lt lt_o_ad53_0))).other W76 (Or.inl (Nat.ne_of_lt lt_o_am))).other W81 (Or.inr (slot_ne (a0 := a0) (C := "com/example/sieve_for_links/sieveforlinks/VirtualLinks") (Or.inr (hw _ (List.mem_of_getElem? (i := 30) rfl))) (Or.inr (hw _ (List.mem_of_getElem? (i := 24) rfl))) (by decide) (t := (.array .int)) (t' := (.array .int)) (by decide) (by decide)))).other W86 (Or.inr (slot_ne (a0 := a0) (C := "com/example/sieve_for_links/sieveforlinks/VirtualLinks") (Or.inr (hw _ (List.mem_of_getElem? (i := 30) rfl))) (Or.inr (hw _ (List.mem_of_getElem? (i := 26) rfl))) (by decide) (t := (.array .int)) (t' := (.array .double)) (by decide) (by decide)))).other W91 (Or.inr (slot_ne (a0 := a0) (C := "com/example/sieve_for_links/sieveforlinks/VirtualLinks") (Or.inr (hw _ (List.mem_of_getElem? (i := 30) rfl))) (Or.inr (hw _ (List.mem_of_getElem? (i := 28) rfl))) (by decide) (t := (.array .int)) (t' := (.array .int)) (by decide) (by decide))))
      have F98 := (F93.wr W91)
      refine OwnW.putF (a0 := a0) (pc' := 271) d1_268 (host := "") (Or.inl (hw _ (List.mem_of_getElem? (i := 29) rfl))) Via.refl F97 F98 (Or.inr ⟨(hw _ (List.mem_of_getElem? (i := 30) rfl)), rfl, rfl⟩) (hw _ (List.mem_of_getElem? (i := 3) rfl)) (ty := (.array .int)) (by decide) rfl rfl g_o rfl ?_
      intro h96 W96
      have sz99 : n0 ≤ h96.size := (by rw [W96.size]; exact sz94)
      have F100 := F97.same W96
      exact OwnW.ret0 d1_271 rfl (by decide) (by decide) (⟨rfl, (((((((((((((((((Keep.refl h0 [o]).ext E3).wr W17 (Or.inr (Nat.le_trans (Nat.le_refl _) (Nat.le_of_eq g3.symm)))).wr W32 (Or.inr (Nat.le_trans (Nat.le_refl _) (Nat.le_of_eq g3.symm)))).ext E37).wr W42 (Or.inr (Nat.le_trans (Nat.le_trans (Nat.le_trans (Nat.le_trans (Nat.le_refl _) E3.1) (Nat.le_of_eq W17.size.symm)) (Nat.le_of_eq W32.size.symm)) (Nat.le_of_eq g37.symm)))).wr W48 (Or.inr (Nat.le_trans (Nat.le_trans (Nat.le_trans (Nat.le_trans (Nat.le_refl _) E3.1) (Nat.le_of_eq W17.size.symm)) (Nat.le_of_eq W32.size.symm)) (Nat.le_of_eq g37.symm)))).ext Em).trans K53 all0).wr W61 (Or.inr (Nat.le_trans (Nat.le_trans (Nat.le_trans (Nat.le_trans (Nat.le_trans (Nat.le_trans (Nat.le_trans (Nat.le_trans (Nat.le_refl _) E3.1) (Nat.le_of_eq W17.size.symm)) (Nat.le_of_eq W32.size.symm)) E37.1) (Nat.le_of_eq W42.size.symm)) (Nat.le_of_eq W48.size.symm)) Em.1) gl53_0))).wr W64 (Or.inr (Nat.le_trans (Nat.le_trans (Nat.le_trans (Nat.le_trans (Nat.le_trans (Nat.le_trans (Nat.le_trans (Nat.le_refl _) E3.1) (Nat.le_of_eq W17.size.symm)) (Nat.le_of_eq W32.size.symm)) E37.1) (Nat.le_of_eq W42.size.symm)) (Nat.le_of_eq W48.size.symm)) (Nat.le_of_eq gm.symm)))).wr W73 (Or.inr (Nat.le_trans (Nat.le_trans (Nat.le_trans (Nat.le_trans (Nat.le_trans (Nat.le_trans (Nat.le_trans (Nat.le_trans (Nat.le_refl _) E3.1) (Nat.le_of_eq W17.size.symm)) (Nat.le_of_eq W32.size.symm)) E37.1) (Nat.le_of_eq W42.size.symm)) (Nat.le_of_eq W48.size.symm)) Em.1) gl53_0))).wr W76 (Or.inr (Nat.le_trans (Nat.le_trans (Nat.le_trans (Nat.le_trans (Nat.le_trans (Nat.le_trans (Nat.le_trans (Nat.le_refl _) E3.1) (Nat.le_of_eq W17.size.symm)) (Nat.le_of_eq W32.size.symm)) E37.1) (Nat.le_of_eq W42.size.symm)) (Nat.le_of_eq W48.size.symm)) (Nat.le_of_eq gm.symm)))).wr W81 (Or.inl (List.mem_of_getElem? (i := 0) rfl))).wr W86 (Or.inl (List.mem_of_getElem? (i := 0) rfl))).wr W91 (Or.inl (List.mem_of_getElem? (i := 0) rfl))).wr W96 (Or.inl (List.mem_of_getElem? (i := 0) rfl))), (F98.wr W96), (((F85.other W86 (Or.inr (slot_ne (a0 := a0) (C := "com/example/sieve_for_links/sieveforlinks/VirtualLinks") (Or.inr (hw _ (List.mem_of_getElem? (i := 24) rfl))) (Or.inr (hw _ (List.mem_of_getElem? (i := 26) rfl))) (by decide) (t := (.array .int)) (t' := (.array .double)) (by decide) (by decide)))).other W91 (Or.inr (slot_ne (a0 := a0) (C := "com/example/sieve_for_links/sieveforlinks/VirtualLinks") (Or.inr (hw _ (List.mem_of_getElem? (i := 24) rfl))) (Or.inr (hw _ (List.mem_of_getElem? (i := 28) rfl))) (by decide) (t := (.array .int)) (t' := (.array .int)) (by decide) (by decide)))).other W96 (Or.inr (slot_ne (a0 := a0) (C := "com/example/sieve_for_links/sieveforlinks/VirtualLinks") (Or.inr (hw _ (List.mem_of_getElem? (i := 24) rfl))) (Or.inr (hw _ (List.mem_of_getElem? (i := 30) rfl))) (by decide) (t := (.array .int)) (t' := (.array .int)) (by decide) (by decide))))⟩)
    ·
      refine OwnW.ifcY (pc' := 243) d1_223 ((if0 _ _).trans (flt hc223_1).2.2.2) (by decide) (by decide) ?_
      refine OwnW.iinc (pc' := 246) (L' := #[.val (.ref o), .val (.ref q0), .val (.ref q1), .val (.int (2 : Int32)), .val (.ref ad3), .val (.ref ad37), .val (.ref am), .val (.ref ad53_0), .val (.int (2 : Int32))]) (d := (1 : Int32)) d1_243 rfl rfl rfl rfl ?_
      refine OwnW.goto (pc' := 212) d1_246 (by decide) (by decide) ?_
      refine OwnW.iload (pc' := 214) d1_212 rfl rfl ?_
      refine OwnW.aloadN (pc' := 215) d1_214 rfl (rfl) rfl ?_
      obtain ⟨cl101, Ar101, qk101, Sz101, Mn101, Hv101, Gf101⟩ := id F67
      refine OwnW.alen (pc' := 216) (x := (2 : Int32)) d1_215 Ar101 (len_of Sz101 Mn101) rfl ?_
      refine OwnW.icmpY (pc' := 249) d1_216 (flt (by decide)).2.1 (by decide) (by decide) ?_
      refine OwnW.aloadN (pc' := 250) d1_249 rfl (rfl) rfl ?_
      refine OwnW.aloadN (pc' := 251) d1_250 rfl (rfl) rfl ?_
      have F103 := ((((((((((F_groups.ext E3).other W17 (Or.inl (Nat.ne_of_lt lt_o_ad3))).other W32 (Or.inl (Nat.ne_of_lt lt_o_ad3))).ext E37).other W42 (Or.inl (Nat.ne_of_lt lt_o_ad37))).other W48 (Or.inl (Nat.ne_of_lt lt_o_ad37))).ext Em).keep K53 nin0).other W61 (Or.inl (Nat.ne_of_lt lt_o_ad53_0))).other W64 (Or.inl (Nat.ne_of_lt lt_o_am)))
      have F104 := ((((((((((E_o.ext E3).wr W17).wr W32).ext E37).wr W42).wr W48).ext Em).keep K53).wr W61).wr W64)
      refine OwnW.putF (a0 := a0) (pc' := 254) d1_251 (host := "") (Or.inl (hw _ (List.mem_of_getElem? (i := 23) rfl))) Via.refl F103 F104 (Or.inr ⟨(hw _ (List.mem_of_getElem? (i := 24) rfl)), rfl, rfl⟩) (hw _ (List.mem_of_getElem? (i := 3) rfl)) (ty := (.array .int)) (by decide) rfl rfl g_o rfl ?_
      intro h102 W102
      have sz105 : n0 ≤ h102.size := (by rw [W102.size]; exact sz66)
      have F106 := F103.same W102
      refine OwnW.aloadN (pc' := 255) d1_254 rfl (rfl) rfl ?_
      refine OwnW.aloadN (pc' := 256) d1_255 rfl (rfl) rfl ?_
      have F108 := (((((((((((F_shares.ext E3).other W17 (Or.inl (Nat.ne_of_lt lt_o_ad3))).other W32 (Or.inl (Nat.ne_of_lt lt_o_ad3))).ext E37).other W42 (Or.inl (Nat.ne_of_lt lt_o_ad37))).other W48 (Or.inl (Nat.ne_of_lt lt_o_ad37))).ext Em).keep K53 nin0).other W61 (Or.inl (Nat.ne_of_lt lt_o_ad53_0))).other W64 (Or.inl (Nat.ne_of_lt lt_o_am))).other W102 (Or.inr (slot_ne (a0 := a0) (C := "com/example/sieve_for_links/sieveforlinks/VirtualLinks") (Or.inr (hw _ (List.mem_of_getElem? (i := 26) rfl))) (Or.inr (hw _ (List.mem_of_getElem? (i := 24) rfl))) (by decide) (t := (.array .double)) (t' := (.array .int)) (by decide) (by decide))))
      have F109 := (F104.wr W102)
      refine OwnW.putF (a0 := a0) (pc' := 259) d1_256 (host := "") (Or.inl (hw _ (List.mem_of_getElem? (i := 25) rfl))) Via.refl F108 F109 (Or.inr ⟨(hw _ (List.mem_of_getElem? (i := 26) rfl)), rfl, rfl⟩) (hw _ (List.mem_of_getElem? (i := 3) rfl)) (ty := (.array .double)) (by decide) rfl rfl g_o rfl ?_
      intro h107 W107
      have sz110 : n0 ≤ h107.size := (by rw [W107.size]; exact sz105)
      have F111 := F108.same W107
      refine OwnW.aloadN (pc' := 260) d1_259 rfl (rfl) rfl ?_
      refine OwnW.aload (pc' := 262) d1_260 rfl (rfl) rfl ?_
      have F113 := ((((((((((((F_members.ext E3).other W17 (Or.inl (Nat.ne_of_lt lt_o_ad3))).other W32 (Or.inl (Nat.ne_of_lt lt_o_ad3))).ext E37).other W42 (Or.inl (Nat.ne_of_lt lt_o_ad37))).other W48 (Or.inl (Nat.ne_of_lt lt_o_ad37))).ext Em).keep K53 nin0).other W61 (Or.inl (Nat.ne_of_lt lt_o_ad53_0))).other W64 (Or.inl (Nat.ne_of_lt lt_o_am))).other W102 (Or.inr (slot_ne (a0 := a0) (C := "com/example/sieve_for_links/sieveforlinks/VirtualLinks") (Or.inr (hw _ (List.mem_of_getElem? (i := 28) rfl))) (Or.inr (hw _ (List.mem_of_getElem? (i := 24) rfl))) (by decide) (t := (.array .int)) (t' := (.array .int)) (by decide) (by decide)))).other W107 (Or.inr (slot_ne (a0 := a0) (C := "com/example/sieve_for_links/sieveforlinks/VirtualLinks") (Or.inr (hw _ (List.mem_of_getElem? (i := 28) rfl))) (Or.inr (hw _ (List.mem_of_getElem? (i := 26) rfl))) (by decide) (t := (.array .int)) (t' := (.array .double)) (by decide) (by decide))))
      have F114 := (F109.wr W107)
      refine OwnW.putF (a0 := a0) (pc' := 265) d1_262 (host := "") (Or.inl (hw _ (List.mem_of_getElem? (i := 27) rfl))) Via.refl F113 F114 (Or.inr ⟨(hw _ (List.mem_of_getElem? (i := 28) rfl)), rfl, rfl⟩) (hw _ (List.mem_of_getElem? (i := 3) rfl)) (ty := (.array .int)) (by decide) rfl rfl g_o rfl ?_
      intro h112 W112
      have sz115 : n0 ≤ h112.size := (by rw [W112.size]; exact sz110)
      have F116 := F113.same W112
      refine OwnW.aloadN (pc' := 266) d1_265 rfl (rfl) rfl ?_
      refine OwnW.aload (pc' := 268) d1_266 rfl (rfl) rfl ?_
      have F118 := (((((((((((((F_memberStarts.ext E3).other W17 (Or.inl (Nat.ne_of_lt lt_o_ad3))).other W32 (Or.inl (Nat.ne_of_lt lt_o_ad3))).ext E37).other W42 (Or.inl (Nat.ne_of_lt lt_o_ad37))).other W48 (Or.inl (Nat.ne_of_lt lt_o_ad37))).ext Em).keep K53 nin0).other W61 (Or.inl (Nat.ne_of_lt lt_o_ad53_0))).other W64 (Or.inl (Nat.ne_of_lt lt_o_am))).other W102 (Or.inr (slot_ne (a0 := a0) (C := "com/example/sieve_for_links/sieveforlinks/VirtualLinks") (Or.inr (hw _ (List.mem_of_getElem? (i := 30) rfl))) (Or.inr (hw _ (List.mem_of_getElem? (i := 24) rfl))) (by decide) (t := (.array .int)) (t' := (.array .int)) (by decide) (by decide)))).other W107 (Or.inr (slot_ne (a0 := a0) (C := "com/example/sieve_for_links/sieveforlinks/VirtualLinks") (Or.inr (hw _ (List.mem_of_getElem? (i := 30) rfl))) (Or.inr (hw _ (List.mem_of_getElem? (i := 26) rfl))) (by decide) (t := (.array .int)) (t' := (.array .double)) (by decide) (by decide)))).other W112 (Or.inr (slot_ne (a0 := a0) (C := "com/example/sieve_for_links/sieveforlinks/VirtualLinks") (Or.inr (hw _ (List.mem_of_getElem? (i := 30) rfl))) (Or.inr (hw _ (List.mem_of_getElem? (i := 28) rfl))) (by decide) (t := (.array .int)) (t' := (.array .int)) (by decide) (by decide))))
      have F119 := (F114.wr W112)
      refine OwnW.putF (a0 := a0) (pc' := 271) d1_268 (host := "") (Or.inl (hw _ (List.mem_of_getElem? (i := 29) rfl))) Via.refl F118 F119 (Or.inr ⟨(hw _ (List.mem_of_getElem? (i := 30) rfl)), rfl, rfl⟩) (hw _ (List.mem_of_getElem? (i := 3) rfl)) (ty := (.array .int)) (by decide) rfl rfl g_o rfl ?_
      intro h117 W117
      have sz120 : n0 ≤ h117.size := (by rw [W117.size]; exact sz115)
      have F121 := F118.same W117
      exact OwnW.ret0 d1_271 rfl (by decide) (by decide) (⟨rfl, (((((((((((((((Keep.refl h0 [o]).ext E3).wr W17 (Or.inr (Nat.le_trans (Nat.le_refl _) (Nat.le_of_eq g3.symm)))).wr W32 (Or.inr (Nat.le_trans (Nat.le_refl _) (Nat.le_of_eq g3.symm)))).ext E37).wr W42 (Or.inr (Nat.le_trans (Nat.le_trans (Nat.le_trans (Nat.le_trans (Nat.le_refl _) E3.1) (Nat.le_of_eq W17.size.symm)) (Nat.le_of_eq W32.size.symm)) (Nat.le_of_eq g37.symm)))).wr W48 (Or.inr (Nat.le_trans (Nat.le_trans (Nat.le_trans (Nat.le_trans (Nat.le_refl _) E3.1) (Nat.le_of_eq W17.size.symm)) (Nat.le_of_eq W32.size.symm)) (Nat.le_of_eq g37.symm)))).ext Em).trans K53 all0).wr W61 (Or.inr (Nat.le_trans (Nat.le_trans (Nat.le_trans (Nat.le_trans (Nat.le_trans (Nat.le_trans (Nat.le_trans (Nat.le_trans (Nat.le_refl _) E3.1) (Nat.le_of_eq W17.size.symm)) (Nat.le_of_eq W32.size.symm)) E37.1) (Nat.le_of_eq W42.size.symm)) (Nat.le_of_eq W48.size.symm)) Em.1) gl53_0))).wr W64 (Or.inr (Nat.le_trans (Nat.le_trans (Nat.le_trans (Nat.le_trans (Nat.le_trans (Nat.le_trans (Nat.le_trans (Nat.le_refl _) E3.1) (Nat.le_of_eq W17.size.symm)) (Nat.le_of_eq W32.size.symm)) E37.1) (Nat.le_of_eq W42.size.symm)) (Nat.le_of_eq W48.size.symm)) (Nat.le_of_eq gm.symm)))).wr W102 (Or.inl (List.mem_of_getElem? (i := 0) rfl))).wr W107 (Or.inl (List.mem_of_getElem? (i := 0) rfl))).wr W112 (Or.inl (List.mem_of_getElem? (i := 0) rfl))).wr W117 (Or.inl (List.mem_of_getElem? (i := 0) rfl))), (F119.wr W117), (((F106.other W107 (Or.inr (slot_ne (a0 := a0) (C := "com/example/sieve_for_links/sieveforlinks/VirtualLinks") (Or.inr (hw _ (List.mem_of_getElem? (i := 24) rfl))) (Or.inr (hw _ (List.mem_of_getElem? (i := 26) rfl))) (by decide) (t := (.array .int)) (t' := (.array .double)) (by decide) (by decide)))).other W112 (Or.inr (slot_ne (a0 := a0) (C := "com/example/sieve_for_links/sieveforlinks/VirtualLinks") (Or.inr (hw _ (List.mem_of_getElem? (i := 24) rfl))) (Or.inr (hw _ (List.mem_of_getElem? (i := 28) rfl))) (by decide) (t := (.array .int)) (t' := (.array .int)) (by decide) (by decide)))).other W117 (Or.inr (slot_ne (a0 := a0) (C := "com/example/sieve_for_links/sieveforlinks/VirtualLinks") (Or.inr (hw _ (List.mem_of_getElem? (i := 24) rfl))) (Or.inr (hw _ (List.mem_of_getElem? (i := 30) rfl))) (by decide) (t := (.array .int)) (t' := (.array .int)) (by decide) (by decide))))⟩)
  ·
    refine OwnW.ifcY (pc' := 243) d1_223 ((if0 _ _).trans (flt hc223).2.2.2) (by decide) (by decide) ?_
    refine OwnW.iinc (pc' := 246) (L' := #[.val (.ref o), .val (.ref q0), .val (.ref q1), .val (.int (2 : Int32)), .val (.ref ad3), .val (.ref ad37), .val (.ref am), .val (.ref ad53_0), .val (.int (1 : Int32))]) (d := (1 : Int32)) d1_243 rfl rfl rfl rfl ?_
    refine OwnW.goto (pc' := 212) d1_246 (by decide) (by decide) ?_
    refine OwnW.iload (pc' := 214) d1_212 rfl rfl ?_
    refine OwnW.aloadN (pc' := 215) d1_214 rfl (rfl) rfl ?_
    obtain ⟨cl122, Ar122, qk122, Sz122, Mn122, Hv122, Gf122⟩ := id F55
    refine OwnW.alen (pc' := 216) (x := (2 : Int32)) d1_215 Ar122 (len_of Sz122 Mn122) rfl ?_
    refine OwnW.icmpN (pc' := 219) d1_216 (tlt (by decide)).2.1 rfl ?_
    refine OwnW.aloadN (pc' := 220) d1_219 rfl (rfl) rfl ?_
    refine OwnW.iload (pc' := 222) d1_220 rfl rfl ?_
    obtain ⟨cl123, Ar123, qk123, Sz123, Mn123, Hv123, Gf123⟩ := id F55
    refine OwnW.iaload (pc' := 223) (v := (.int g1)) d1_222 Ar123 (inb_of Sz123 ⟨by decide, by decide⟩) (Hv123.at (inb_of Sz123 ⟨by decide, by decide⟩) rfl) rfl ?_
    by_cases hc223_1 : (0 : Int32) < g1
    ·
      refine OwnW.ifcN (pc' := 226) d1_223 ((if0 _ _).trans (tlt hc223_1).2.2.2) rfl ?_
      refine OwnW.aload (pc' := 228) d1_226 rfl (rfl) rfl ?_
      refine OwnW.aload (pc' := 230) d1_228 rfl (rfl) rfl ?_
      refine OwnW.aloadN (pc' := 231) d1_230 rfl (rfl) rfl ?_
      refine OwnW.iload (pc' := 233) d1_231 rfl rfl ?_
      obtain ⟨cl124, Ar124, qk124, Sz124, Mn124, Hv124, Gf124⟩ := id F55
      refine OwnW.iaload (pc' := 234) (v := (.int g1)) d1_233 Ar124 (inb_of Sz124 ⟨by decide, by decide⟩) (Hv124.at (inb_of Sz124 ⟨by decide, by decide⟩) rfl) rfl ?_
      refine OwnW.dup2 (pc' := 235) d1_234 rfl rfl rfl ?_
      obtain ⟨C125, hC125⟩ : ∃ z : List Int32, z = [(C49.getD 0 0), (C49.getD 1 0), (C49.getD 2 0)] := ⟨_, rfl⟩
      have VC125 : Arv Z h53 ad53_0 kc53_0 .int (3 : Int32) (C125.map Value.int) (.int (0 : Int32)) := by rw [hC125]; exact Fc53_0
      have lC125 : C125.length = 3 := by rw [hC125]; rfl
      obtain ⟨cl126, Ar126, qk126, Sz126, Mn126, Hv126, Gf126⟩ := id VC125
      refine OwnW.iaload (pc' := 236) (v := .int (C125.getD g1.toNatClampNeg 0)) d1_235 Ar126 (inb_of Sz126 (own_bd hg1)) (Hv126.at (inb_of Sz126 (own_bd hg1)) (own_gd C125 g1.toNatClampNeg)) rfl ?_
      show GoB12 l Z n0 (Q12 Z o q0 q1 kg ks g0 g1 s0 s1 h0) h53 4 12 236 #[.val (.ref o), .val (.ref q0), .val (.ref q1), .val (.int (2 : Int32)), .val (.ref ad3), .val (.ref ad37), .val (.ref am), .val (.ref ad53_0), .val (.int (1 : Int32))] [(.int (C125.getD g1.toNatClampNeg 0)), (.int g1), (.ref ad53_0), (.ref am)]
      refine OwnW.dupX2 (pc' := 237) d1_236 rfl ?_
      refine OwnW.iconst (pc' := 238) (v := (1 : Int32)) d1_237 rfl rfl ?_
      refine OwnW.iadd (pc' := 239) d1_238 rfl ?_
      obtain ⟨cl127, Ar127, qk127, Sz127, Mn127, Hv127, Gf127⟩ := id VC125
      refine OwnW.stI (pc' := 240) d1_239 Ar127 (inb_of Sz127 (own_bd hg1)) ge_ad53_0 rfl ?_
      intro h127 W127
      have sz129 : n0 ≤ h127.size := (by rw [W127.size]; exact sz54)
      obtain ⟨C128, hC128⟩ : ∃ z : List Int32, z = (C125.set g1.toNatClampNeg ((C125.getD g1.toNatClampNeg 0) + (1 : Int32))) := ⟨_, rfl⟩
      have VC128 : Arv Z h127 ad53_0 kc53_0 .int (3 : Int32) (C128.map Value.int) (.int (0 : Int32)) := by rw [hC128, List.map_set]; exact Arv.set Ar127 qk127 Sz127 Mn127 Hv127 Gf127 rfl W127 g1.toNatClampNeg rfl (own_ln (z := (3 : Int32)) lC125 (own_bd hg1))
      have lC128 : C128.length = 3 := by rw [hC128, List.length_set]; exact lC125
      show GoB12 l Z n0 (Q12 Z o q0 q1 kg ks g0 g1 s0 s1 h0) h127 4 12 240 #[.val (.ref o), .val (.ref q0), .val (.ref q1), .val (.int (2 : Int32)), .val (.ref ad3), .val (.ref ad37), .val (.ref am), .val (.ref ad53_0), .val (.int (1 : Int32))] [(.int (C125.getD g1.toNatClampNeg 0)), (.ref am)]
      refine OwnW.iload (pc' := 242) d1_240 rfl rfl ?_
      have F131 := ((Ym.keep K53 nin0).other W127 (Nat.ne_of_lt lt_am_ad53_0))
      obtain ⟨cl130, Ar130, Sz130⟩ := id F131
      refine OwnW.stI (pc' := 243) d1_242 Ar130 (inb_of Sz130 (own_mb2_2 hg0 hg1 hC15 hC18 hC33 hC38 hC43 hC49 hC125 hC128 htt hc223 hc223_1)) ge_am rfl ?_
      intro h130 W130
      have sz132 : n0 ≤ h130.size := (by rw [W130.size]; exact sz129)
      have Y130 : Wk Z h130 am tt := Wk.same ⟨cl130, Ar130, Sz130⟩ W130
      show GoB12 l Z n0 (Q12 Z o q0 q1 kg ks g0 g1 s0 s1 h0) h130 4 12 243 #[.val (.ref o), .val (.ref q0), .val (.ref q1), .val (.int (2 : Int32)), .val (.ref ad3), .val (.ref ad37), .val (.ref am), .val (.ref ad53_0), .val (.int (1 : Int32))] []
      refine OwnW.iinc (pc' := 246) (L' := #[.val (.ref o), .val (.ref q0), .val (.ref q1), .val (.int (2 : Int32)), .val (.ref ad3), .val (.ref ad37), .val (.ref am), .val (.ref ad53_0), .val (.int (2 : Int32))]) (d := (1 : Int32)) d1_243 rfl rfl rfl rfl ?_
      refine OwnW.goto (pc' := 212) d1_246 (by decide) (by decide) ?_
      refine OwnW.iload (pc' := 214) d1_212 rfl rfl ?_
      refine OwnW.aloadN (pc' := 215) d1_214 rfl (rfl) rfl ?_
      have F133 := ((F55.other W127 (Nat.ne_of_lt lt_q0_ad53_0)).other W130 (Nat.ne_of_lt lt_q0_am))
      obtain ⟨cl134, Ar134, qk134, Sz134, Mn134, Hv134, Gf134⟩ := id F133
      refine OwnW.alen (pc' := 216) (x := (2 : Int32)) d1_215 Ar134 (len_of Sz134 Mn134) rfl ?_
      refine OwnW.icmpY (pc' := 249) d1_216 (flt (by decide)).2.1 (by decide) (by decide) ?_
      refine OwnW.aloadN (pc' := 250) d1_249 rfl (rfl) rfl ?_
      refine OwnW.aloadN (pc' := 251) d1_250 rfl (rfl) rfl ?_
      have F136 := ((((((((((F_groups.ext E3).other W17 (Or.inl (Nat.ne_of_lt lt_o_ad3))).other W32 (Or.inl (Nat.ne_of_lt lt_o_ad3))).ext E37).other W42 (Or.inl (Nat.ne_of_lt lt_o_ad37))).other W48 (Or.inl (Nat.ne_of_lt lt_o_ad37))).ext Em).keep K53 nin0).other W127 (Or.inl (Nat.ne_of_lt lt_o_ad53_0))).other W130 (Or.inl (Nat.ne_of_lt lt_o_am)))
      have F137 := ((((((((((E_o.ext E3).wr W17).wr W32).ext E37).wr W42).wr W48).ext Em).keep K53).wr W127).wr W130)
      refine OwnW.putF (a0 := a0) (pc' := 254) d1_251 (host := "") (Or.inl (hw _ (List.mem_of_getElem? (i := 23) rfl))) Via.refl F136 F137 (Or.inr ⟨(hw _ (List.mem_of_getElem? (i := 24) rfl)), rfl, rfl⟩) (hw _ (List.mem_of_getElem? (i := 3) rfl)) (ty := (.array .int)) (by decide) rfl rfl g_o rfl ?_
      intro h135 W135
      have sz138 : n0 ≤ h135.size := (by rw [W135.size]; exact sz132)
      have F139 := F136.same W135
      refine OwnW.aloadN (pc' := 255) d1_254 rfl (rfl) rfl ?_
      refine OwnW.aloadN (pc' := 256) d1_255 rfl (rfl) rfl ?_
      have F141 := (((((((((((F_shares.ext E3).other W17 (Or.inl (Nat.ne_of_lt lt_o_ad3))).other W32 (Or.inl (Nat.ne_of_lt lt_o_ad3))).ext E37).other W42 (Or.inl (Nat.ne_of_lt lt_o_ad37))).other W48 (Or.inl (Nat.ne_of_lt lt_o_ad37))).ext Em).keep K53 nin0).other W127 (Or.inl (Nat.ne_of_lt lt_o_ad53_0))).other W130 (Or.inl (Nat.ne_of_lt lt_o_am))).other W135 (Or.inr (slot_ne (a0 := a0) (C := "com/example/sieve_for_links/sieveforlinks/VirtualLinks") (Or.inr (hw _ (List.mem_of_getElem? (i := 26) rfl))) (Or.inr (hw _ (List.mem_of_getElem? (i := 24) rfl))) (by decide) (t := (.array .double)) (t' := (.array .int)) (by decide) (by decide))))
      have F142 := (F137.wr W135)
      refine OwnW.putF (a0 := a0) (pc' := 259) d1_256 (host := "") (Or.inl (hw _ (List.mem_of_getElem? (i := 25) rfl))) Via.refl F141 F142 (Or.inr ⟨(hw _ (List.mem_of_getElem? (i := 26) rfl)), rfl, rfl⟩) (hw _ (List.mem_of_getElem? (i := 3) rfl)) (ty := (.array .double)) (by decide) rfl rfl g_o rfl ?_
      intro h140 W140
      have sz143 : n0 ≤ h140.size := (by rw [W140.size]; exact sz138)
      have F144 := F141.same W140
      refine OwnW.aloadN (pc' := 260) d1_259 rfl (rfl) rfl ?_
      refine OwnW.aload (pc' := 262) d1_260 rfl (rfl) rfl ?_
      have F146 := ((((((((((((F_members.ext E3).other W17 (Or.inl (Nat.ne_of_lt lt_o_ad3))).other W32 (Or.inl (Nat.ne_of_lt lt_o_ad3))).ext E37).other W42 (Or.inl (Nat.ne_of_lt lt_o_ad37))).other W48 (Or.inl (Nat.ne_of_lt lt_o_ad37))).ext Em).keep K53 nin0).other W127 (Or.inl (Nat.ne_of_lt lt_o_ad53_0))).other W130 (Or.inl (Nat.ne_of_lt lt_o_am))).other W135 (Or.inr (slot_ne (a0 := a0) (C := "com/example/sieve_for_links/sieveforlinks/VirtualLinks") (Or.inr (hw _ (List.mem_of_getElem? (i := 28) rfl))) (Or.inr (hw _ (List.mem_of_getElem? (i := 24) rfl))) (by decide) (t := (.array .int)) (t' := (.array .int)) (by decide) (by decide)))).other W140 (Or.inr (slot_ne (a0 := a0) (C := "com/example/sieve_for_links/sieveforlinks/VirtualLinks") (Or.inr (hw _ (List.mem_of_getElem? (i := 28) rfl))) (Or.inr (hw _ (List.mem_of_getElem? (i := 26) rfl))) (by decide) (t := (.array .int)) (t' := (.array .double)) (by decide) (by decide))))
      have F147 := (F142.wr W140)
      refine OwnW.putF (a0 := a0) (pc' := 265) d1_262 (host := "") (Or.inl (hw _ (List.mem_of_getElem? (i := 27) rfl))) Via.refl F146 F147 (Or.inr ⟨(hw _ (List.mem_of_getElem? (i := 28) rfl)), rfl, rfl⟩) (hw _ (List.mem_of_getElem? (i := 3) rfl)) (ty := (.array .int)) (by decide) rfl rfl g_o rfl ?_
      intro h145 W145
      have sz148 : n0 ≤ h145.size := (by rw [W145.size]; exact sz143)
      have F149 := F146.same W145
      refine OwnW.aloadN (pc' := 266) d1_265 rfl (rfl) rfl ?_
      refine OwnW.aload (pc' := 268) d1_266 rfl (rfl) rfl ?_
      have F151 := (((((((((((((F_memberStarts.ext E3).other W17 (Or.inl (Nat.ne_of_lt lt_o_ad3))).other W32 (Or.inl (Nat.ne_of_lt lt_o_ad3))).ext E37).other W42 (Or.inl (Nat.ne_of_lt lt_o_ad37))).other W48 (Or.inl (Nat.ne_of_lt lt_o_ad37))).ext Em).keep K53 nin0).other W127 (Or.inl (Nat.ne_of_lt lt_o_ad53_0))).other W130 (Or.inl (Nat.ne_of_lt lt_o_am))).other W135 (Or.inr (slot_ne (a0 := a0) (C := "com/example/sieve_for_links/sieveforlinks/VirtualLinks") (Or.inr (hw _ (List.mem_of_getElem? (i := 30) rfl))) (Or.inr (hw _ (List.mem_of_getElem? (i := 24) rfl))) (by decide) (t := (.array .int)) (t' := (.array .int)) (by decide) (by decide)))).other W140 (Or.inr (slot_ne (a0 := a0) (C := "com/example/sieve_for_links/sieveforlinks/VirtualLinks") (Or.inr (hw _ (List.mem_of_getElem? (i := 30) rfl))) (Or.inr (hw _ (List.mem_of_getElem? (i := 26) rfl))) (by decide) (t := (.array .int)) (t' := (.array .double)) (by decide) (by decide)))).other W145 (Or.inr (slot_ne (a0 := a0) (C := "com/example/sieve_for_links/sieveforlinks/VirtualLinks") (Or.inr (hw _ (List.mem_of_getElem? (i := 30) rfl))) (Or.inr (hw _ (List.mem_of_getElem? (i := 28) rfl))) (by decide) (t := (.array .int)) (t' := (.array .int)) (by decide) (by decide))))
      have F152 := (F147.wr W145)
      refine OwnW.putF (a0 := a0) (pc' := 271) d1_268 (host := "") (Or.inl (hw _ (List.mem_of_getElem? (i := 29) rfl))) Via.refl F151 F152 (Or.inr ⟨(hw _ (List.mem_of_getElem? (i := 30) rfl)), rfl, rfl⟩) (hw _ (List.mem_of_getElem? (i := 3) rfl)) (ty := (.array .int)) (by decide) rfl rfl g_o rfl ?_
      intro h150 W150
      have sz153 : n0 ≤ h150.size := (by rw [W150.size]; exact sz148)
      have F154 := F151.same W150
      exact OwnW.ret0 d1_271 rfl (by decide) (by decide) (⟨rfl, (((((((((((((((Keep.refl h0 [o]).ext E3).wr W17 (Or.inr (Nat.le_trans (Nat.le_refl _) (Nat.le_of_eq g3.symm)))).wr W32 (Or.inr (Nat.le_trans (Nat.le_refl _) (Nat.le_of_eq g3.symm)))).ext E37).wr W42 (Or.inr (Nat.le_trans (Nat.le_trans (Nat.le_trans (Nat.le_trans (Nat.le_refl _) E3.1) (Nat.le_of_eq W17.size.symm)) (Nat.le_of_eq W32.size.symm)) (Nat.le_of_eq g37.symm)))).wr W48 (Or.inr (Nat.le_trans (Nat.le_trans (Nat.le_trans (Nat.le_trans (Nat.le_refl _) E3.1) (Nat.le_of_eq W17.size.symm)) (Nat.le_of_eq W32.size.symm)) (Nat.le_of_eq g37.symm)))).ext Em).trans K53 all0).wr W127 (Or.inr (Nat.le_trans (Nat.le_trans (Nat.le_trans (Nat.le_trans (Nat.le_trans (Nat.le_trans (Nat.le_trans (Nat.le_trans (Nat.le_refl _) E3.1) (Nat.le_of_eq W17.size.symm)) (Nat.le_of_eq W32.size.symm)) E37.1) (Nat.le_of_eq W42.size.symm)) (Nat.le_of_eq W48.size.symm)) Em.1) gl53_0))).wr W130 (Or.inr (Nat.le_trans (Nat.le_trans (Nat.le_trans (Nat.le_trans (Nat.le_trans (Nat.le_trans (Nat.le_trans (Nat.le_refl _) E3.1) (Nat.le_of_eq W17.size.symm)) (Nat.le_of_eq W32.size.symm)) E37.1) (Nat.le_of_eq W42.size.symm)) (Nat.le_of_eq W48.size.symm)) (Nat.le_of_eq gm.symm)))).wr W135 (Or.inl (List.mem_of_getElem? (i := 0) rfl))).wr W140 (Or.inl (List.mem_of_getElem? (i := 0) rfl))).wr W145 (Or.inl (List.mem_of_getElem? (i := 0) rfl))).wr W150 (Or.inl (List.mem_of_getElem? (i := 0) rfl))), (F152.wr W150), (((F139.other W140 (Or.inr (slot_ne (a0 := a0) (C := "com/example/sieve_for_links/sieveforlinks/VirtualLinks") (Or.inr (hw _ (List.mem_of_getElem? (i := 24) rfl))) (Or.inr (hw _ (List.mem_of_getElem? (i := 26) rfl))) (by decide) (t := (.array .int)) (t' := (.array .double)) (by decide) (by decide)))).other W145 (Or.inr (slot_ne (a0 := a0) (C := "com/example/sieve_for_links/sieveforlinks/VirtualLinks") (Or.inr (hw _ (List.mem_of_getElem? (i := 24) rfl))) (Or.inr (hw _ (List.mem_of_getElem? (i := 28) rfl))) (by decide) (t := (.array .int)) (t' := (.array .int)) (by decide) (by decide)))).other W150 (Or.inr (slot_ne (a0 := a0) (C := "com/example/sieve_for_links/sieveforlinks/VirtualLinks") (Or.inr (hw _ (List.mem_of_getElem? (i := 24) rfl))) (Or.inr (hw _ (List.mem_of_getElem? (i := 30) rfl))) (by decide) (t := (.array .int)) (t' := (.array .int)) (by decide) (by decide))))⟩)
    ·
      refine OwnW.ifcY (pc' := 243) d1_223 ((if0 _ _).trans (flt hc223_1).2.2.2) (by decide) (by decide) ?_
      refine OwnW.iinc (pc' := 246) (L' := #[.val (.ref o), .val (.ref q0), .val (.ref q1), .val (.int (2 : Int32)), .val (.ref ad3), .val (.ref ad37), .val (.ref am), .val (.ref ad53_0), .val (.int (2 : Int32))]) (d := (1 : Int32)) d1_243 rfl rfl rfl rfl ?_
      refine OwnW.goto (pc' := 212) d1_246 (by decide) (by decide) ?_
      refine OwnW.iload (pc' := 214) d1_212 rfl rfl ?_
      refine OwnW.aloadN (pc' := 215) d1_214 rfl (rfl) rfl ?_
      obtain ⟨cl155, Ar155, qk155, Sz155, Mn155, Hv155, Gf155⟩ := id F55
      refine OwnW.alen (pc' := 216) (x := (2 : Int32)) d1_215 Ar155 (len_of Sz155 Mn155) rfl ?_
      refine OwnW.icmpY (pc' := 249) d1_216 (flt (by decide)).2.1 (by decide) (by decide) ?_
      refine OwnW.aloadN (pc' := 250) d1_249 rfl (rfl) rfl ?_
      refine OwnW.aloadN (pc' := 251) d1_250 rfl (rfl) rfl ?_
      have F157 := ((((((((F_groups.ext E3).other W17 (Or.inl (Nat.ne_of_lt lt_o_ad3))).other W32 (Or.inl (Nat.ne_of_lt lt_o_ad3))).ext E37).other W42 (Or.inl (Nat.ne_of_lt lt_o_ad37))).other W48 (Or.inl (Nat.ne_of_lt lt_o_ad37))).ext Em).keep K53 nin0)
      have F158 := ((((((((E_o.ext E3).wr W17).wr W32).ext E37).wr W42).wr W48).ext Em).keep K53)
      refine OwnW.putF (a0 := a0) (pc' := 254) d1_251 (host := "") (Or.inl (hw _ (List.mem_of_getElem? (i := 23) rfl))) Via.refl F157 F158 (Or.inr ⟨(hw _ (List.mem_of_getElem? (i := 24) rfl)), rfl, rfl⟩) (hw _ (List.mem_of_getElem? (i := 3) rfl)) (ty := (.array .int)) (by decide) rfl rfl g_o rfl ?_
      intro h156 W156
      have sz159 : n0 ≤ h156.size := (by rw [W156.size]; exact sz54)
      have F160 := F157.same W156
      refine OwnW.aloadN (pc' := 255) d1_254 rfl (rfl) rfl ?_
      refine OwnW.aloadN (pc' := 256) d1_255 rfl (rfl) rfl ?_
      have F162 := (((((((((F_shares.ext E3).other W17 (Or.inl (Nat.ne_of_lt lt_o_ad3))).other W32 (Or.inl (Nat.ne_of_lt lt_o_ad3))).ext E37).other W42 (Or.inl (Nat.ne_of_lt lt_o_ad37))).other W48 (Or.inl (Nat.ne_of_lt lt_o_ad37))).ext Em).keep K53 nin0).other W156 (Or.inr (slot_ne (a0 := a0) (C := "com/example/sieve_for_links/sieveforlinks/VirtualLinks") (Or.inr (hw _ (List.mem_of_getElem? (i := 26) rfl))) (Or.inr (hw _ (List.mem_of_getElem? (i := 24) rfl))) (by decide) (t := (.array .double)) (t' := (.array .int)) (by decide) (by decide))))
      have F163 := (F158.wr W156)
      refine OwnW.putF (a0 := a0) (pc' := 259) d1_256 (host := "") (Or.inl (hw _ (List.mem_of_getElem? (i := 25) rfl))) Via.refl F162 F163 (Or.inr ⟨(hw _ (List.mem_of_getElem? (i := 26) rfl)), rfl, rfl⟩) (hw _ (List.mem_of_getElem? (i := 3) rfl)) (ty := (.array .double)) (by decide) rfl rfl g_o rfl ?_
      intro h161 W161
      have sz164 : n0 ≤ h161.size := (by rw [W161.size]; exact sz159)
      have F165 := F162.same W161
      refine OwnW.aloadN (pc' := 260) d1_259 rfl (rfl) rfl ?_
      refine OwnW.aload (pc' := 262) d1_260 rfl (rfl) rfl ?_
      have F167 := ((((((((((F_members.ext E3).other W17 (Or.inl (Nat.ne_of_lt lt_o_ad3))).other W32 (Or.inl (Nat.ne_of_lt lt_o_ad3))).ext E37).other W42 (Or.inl (Nat.ne_of_lt lt_o_ad37))).other W48 (Or.inl (Nat.ne_of_lt lt_o_ad37))).ext Em).keep K53 nin0).other W156 (Or.inr (slot_ne (a0 := a0) (C := "com/example/sieve_for_links/sieveforlinks/VirtualLinks") (Or.inr (hw _ (List.mem_of_getElem? (i := 28) rfl))) (Or.inr (hw _ (List.mem_of_getElem? (i := 24) rfl))) (by decide) (t := (.array .int)) (t' := (.array .int)) (by decide) (by decide)))).other W161 (Or.inr (slot_ne (a0 := a0) (C := "com/example/sieve_for_links/sieveforlinks/VirtualLinks") (Or.inr (hw _ (List.mem_of_getElem? (i := 28) rfl))) (Or.inr (hw _ (List.mem_of_getElem? (i := 26) rfl))) (by decide) (t := (.array .int)) (t' := (.array .double)) (by decide) (by decide))))
      have F168 := (F163.wr W161)
      refine OwnW.putF (a0 := a0) (pc' := 265) d1_262 (host := "") (Or.inl (hw _ (List.mem_of_getElem? (i := 27) rfl))) Via.refl F167 F168 (Or.inr ⟨(hw _ (List.mem_of_getElem? (i := 28) rfl)), rfl, rfl⟩) (hw _ (List.mem_of_getElem? (i := 3) rfl)) (ty := (.array .int)) (by decide) rfl rfl g_o rfl ?_
      intro h166 W166
      have sz169 : n0 ≤ h166.size := (by rw [W166.size]; exact sz164)
      have F170 := F167.same W166
      refine OwnW.aloadN (pc' := 266) d1_265 rfl (rfl) rfl ?_
      refine OwnW.aload (pc' := 268) d1_266 rfl (rfl) rfl ?_
      have F172 := (((((((((((F_memberStarts.ext E3).other W17 (Or.inl (Nat.ne_of_lt lt_o_ad3))).other W32 (Or.inl (Nat.ne_of_lt lt_o_ad3))).ext E37).other W42 (Or.inl (Nat.ne_of_lt lt_o_ad37))).other W48 (Or.inl (Nat.ne_of_lt lt_o_ad37))).ext Em).keep K53 nin0).other W156 (Or.inr (slot_ne (a0 := a0) (C := "com/example/sieve_for_links/sieveforlinks/VirtualLinks") (Or.inr (hw _ (List.mem_of_getElem? (i := 30) rfl))) (Or.inr (hw _ (List.mem_of_getElem? (i := 24) rfl))) (by decide) (t := (.array .int)) (t' := (.array .int)) (by decide) (by decide)))).other W161 (Or.inr (slot_ne (a0 := a0) (C := "com/example/sieve_for_links/sieveforlinks/VirtualLinks") (Or.inr (hw _ (List.mem_of_getElem? (i := 30) rfl))) (Or.inr (hw _ (List.mem_of_getElem? (i := 26) rfl))) (by decide) (t := (.array .int)) (t' := (.array .double)) (by decide) (by decide)))).other W166 (Or.inr (slot_ne (a0 := a0) (C := "com/example/sieve_for_links/sieveforlinks/VirtualLinks") (Or.inr (hw _ (List.mem_of_getElem? (i := 30) rfl))) (Or.inr (hw _ (List.mem_of_getElem? (i := 28) rfl))) (by decide) (t := (.array .int)) (t' := (.array .int)) (by decide) (by decide))))
      have F173 := (F168.wr W166)
      refine OwnW.putF (a0 := a0) (pc' := 271) d1_268 (host := "") (Or.inl (hw _ (List.mem_of_getElem? (i := 29) rfl))) Via.refl F172 F173 (Or.inr ⟨(hw _ (List.mem_of_getElem? (i := 30) rfl)), rfl, rfl⟩) (hw _ (List.mem_of_getElem? (i := 3) rfl)) (ty := (.array .int)) (by decide) rfl rfl g_o rfl ?_
      intro h171 W171
      have sz174 : n0 ≤ h171.size := (by rw [W171.size]; exact sz169)
      have F175 := F172.same W171
      exact OwnW.ret0 d1_271 rfl (by decide) (by decide) (⟨rfl, (((((((((((((Keep.refl h0 [o]).ext E3).wr W17 (Or.inr (Nat.le_trans (Nat.le_refl _) (Nat.le_of_eq g3.symm)))).wr W32 (Or.inr (Nat.le_trans (Nat.le_refl _) (Nat.le_of_eq g3.symm)))).ext E37).wr W42 (Or.inr (Nat.le_trans (Nat.le_trans (Nat.le_trans (Nat.le_trans (Nat.le_refl _) E3.1) (Nat.le_of_eq W17.size.symm)) (Nat.le_of_eq W32.size.symm)) (Nat.le_of_eq g37.symm)))).wr W48 (Or.inr (Nat.le_trans (Nat.le_trans (Nat.le_trans (Nat.le_trans (Nat.le_refl _) E3.1) (Nat.le_of_eq W17.size.symm)) (Nat.le_of_eq W32.size.symm)) (Nat.le_of_eq g37.symm)))).ext Em).trans K53 all0).wr W156 (Or.inl (List.mem_of_getElem? (i := 0) rfl))).wr W161 (Or.inl (List.mem_of_getElem? (i := 0) rfl))).wr W166 (Or.inl (List.mem_of_getElem? (i := 0) rfl))).wr W171 (Or.inl (List.mem_of_getElem? (i := 0) rfl))), (F173.wr W171), (((F160.other W161 (Or.inr (slot_ne (a0 := a0) (C := "com/example/sieve_for_links/sieveforlinks/VirtualLinks") (Or.inr (hw _ (List.mem_of_getElem? (i := 24) rfl))) (Or.inr (hw _ (List.mem_of_getElem? (i := 26) rfl))) (by decide) (t := (.array .int)) (t' := (.array .double)) (by decide) (by decide)))).other W166 (Or.inr (slot_ne (a0 := a0) (C := "com/example/sieve_for_links/sieveforlinks/VirtualLinks") (Or.inr (hw _ (List.mem_of_getElem? (i := 24) rfl))) (Or.inr (hw _ (List.mem_of_getElem? (i := 28) rfl))) (by decide) (t := (.array .int)) (t' := (.array .int)) (by decide) (by decide)))).other W171 (Or.inr (slot_ne (a0 := a0) (C := "com/example/sieve_for_links/sieveforlinks/VirtualLinks") (Or.inr (hw _ (List.mem_of_getElem? (i := 24) rfl))) (Or.inr (hw _ (List.mem_of_getElem? (i := 30) rfl))) (by decide) (t := (.array .int)) (t' := (.array .int)) (by decide) (by decide))))⟩)
def Q13 (Z : State) (o : Addr) (q0 : Addr) (q1 : Addr) (kg : ClassId) (ks : ClassId) (g0 : Int32) (g1 : Int32) (g2 : Int32) (s0 : UInt64) (s1 : UInt64) (s2 : UInt64) (h0 : Heap) (v : Option Value) (h : Heap) : Prop := v = none ∧ Keep h0 h [o] ∧ Exa Z h o "com/example/sieve_for_links/sieveforlinks/VirtualLinks" ∧ Fld Z h o "com/example/sieve_for_links/sieveforlinks/VirtualLinks" "groups" "[I" (.ref q0)
abbrev GoB13 (l : Launch) (Z : State) (n0 : Nat) (Q : Option Value → Heap → Prop) := Go l Z ({ frames := 2, cells := 4, slots := 13, locals := 32 } : Room) (⟨"com/example/sieve_for_links/sieveforlinks/VirtualLinks", "<init>", "([I[DI)V"⟩ : MethodName) prog_33_method_1_code 9 none n0 Q
theorem ef13 (m : MethodId) (o : Addr) (q0 : Addr) (q1 : Addr) : entryFrame m #[(.ref o), (.ref q0), (.ref q1), (.int (2 : Int32))] 9 = mkF m 0 #[.val (.ref o), .val (.ref q0), .val (.ref q1), .val (.int (2 : Int32)), .unset, .unset, .unset, .unset, .unset] [] := by first | (simp [entryFrame, mkF, argsToLocals, Value.category]; done) | rfl
set_option maxRecDepth 65536 in
set_option maxHeartbeats 40000000 in
theorem rm13 (l : Launch) (Z : State) (a0 : Array Value) (hw : ∀ d ∈ tables_1, d.before a0 Z = true) (o : Addr) (q0 : Addr) (q1 : Addr) (kg : ClassId) (ks : ClassId) (g0 : Int32) (g1 : Int32) (g2 : Int32) (s0 : UInt64) (s1 : UInt64) (s2 : UInt64) (h0 : Heap) (n0 : Nat) (Z0 : n0 ≤ h0.size) (g_o : n0 ≤ o) (E_o : Exa Z h0 o "com/example/sieve_for_links/sieveforlinks/VirtualLinks") (F_groups : Fld Z h0 o "com/example/sieve_for_links/sieveforlinks/VirtualLinks" "groups" "[I" .null) (F_shares : Fld Z h0 o "com/example/sieve_for_links/sieveforlinks/VirtualLinks" "shares" "[D" .null) (F_members : Fld Z h0 o "com/example/sieve_for_links/sieveforlinks/VirtualLinks" "members" "[I" .null) (F_memberStarts : Fld Z h0 o "com/example/sieve_for_links/sieveforlinks/VirtualLinks" "memberStarts" "[I" .null) (A_g : Arv Z h0 q0 kg .int (3 : Int32) [(.int g0), (.int g1), (.int g2)] (.int (0 : Int32))) (A_s : Arv Z h0 q1 ks .double (3 : Int32) [(.double s0), (.double s1), (.double s2)] (.double (0 : UInt64))) (hg0 : own_G g0) (hg1 : own_G g1) (hg2 : own_G g2) (hs0 : own_S g0 s0) (hs1 : own_S g1 s1) (hs2 : own_S g2 s2) :
    Con l Z ({ frames := 2, cells := 4, slots := 13, locals := 32 } : Room) (⟨"com/example/sieve_for_links/sieveforlinks/VirtualLinks", "<init>", "([I[DI)V"⟩ : MethodName) prog_33_method_1_code 9 none n0 #[(.ref o), (.ref q0), (.ref q1), (.int (2 : Int32))] h0 (Q13 Z o q0 q1 kg ks g0 g1 g2 s0 s1 s2 h0) := by
  refine OwnW.Con.of (by first | decide +kernel | exact plainFor_of_name (by simp [plainName, overriddenIn])) (fun m => ef13 m o q0 q1) ?_
  show GoB13 l Z n0 (Q13 Z o q0 q1 kg ks g0 g1 g2 s0 s1 s2 h0) h0 0 0 0 #[.val (.ref o), .val (.ref q0), .val (.ref q1), .val (.int (2 : Int32)), .unset, .unset, .unset, .unset, .unset] []
  refine OwnW.aloadN (pc' := 1) d1_0 rfl (rfl) rfl ?_
  refine OwnW.initO (a0 := a0) (pc' := 4) (W := 0) d1_1 (hw _ (List.mem_of_getElem? (i := 8) rfl)) (hw _ (List.mem_of_getElem? (i := 9) rfl)) (hw _ (List.mem_of_getElem? (i := 10) rfl)) rfl (by decide) (Nat.le_of_ble_eq_true rfl) (by decide) rfl ?_
  refine OwnW.aloadN (pc' := 5) d1_4 rfl (rfl) rfl ?_
  obtain ⟨cl1, Ar1, qk1, Sz1, Mn1, Hv1, Gf1⟩ := id A_g
  refine OwnW.alen (pc' := 6) (x := (3 : Int32)) d1_5 Ar1 (len_of Sz1 Mn1) rfl ?_
  refine OwnW.aloadN (pc' := 7) d1_6 rfl (rfl) rfl ?_
  obtain ⟨cl2, Ar2, qk2, Sz2, Mn2, Hv2, Gf2⟩ := id A_s
  refine OwnW.alen (pc' := 8) (x := (3 : Int32)) d1_7 Ar2 (len_of Sz2 Mn2) rfl ?_
  refine OwnW.icmpY (pc' := 28) d1_8 (teq (by decide)).1 (by decide) (by decide) ?_
  refine OwnW.iloadN (pc' := 29) d1_28 rfl rfl ?_
  refine OwnW.iconst (pc' := 30) (v := (1 : Int32)) d1_29 rfl rfl ?_
  refine OwnW.iadd (pc' := 31) d1_30 rfl ?_
  show GoB13 l Z n0 (Q13 Z o q0 q1 kg ks g0 g1 g2 s0 s1 s2 h0) h0 0 0 31 #[.val (.ref o), .val (.ref q0), .val (.ref q1), .val (.int (2 : Int32)), .unset, .unset, .unset, .unset, .unset] [(.int (3 : Int32))]
  refine OwnW.newP (a0 := a0) (pc' := 33) (cap := 3) (k' := 1) (n' := 3) d1_31 (hw _ (List.mem_of_getElem? (i := 0) rfl)) (by decide) (by decide) (by decide) rfl rfl (by decide) (by decide) rfl ?_
  intro h3 kc3 ad3 g3 E3 A3
  have lt_o_ad3 : @LT.lt Nat _ o ad3 := Nat.lt_of_lt_of_le (E_o).lt (Nat.le_of_eq g3.symm)
  have lt_q0_ad3 : @LT.lt Nat _ q0 ad3 := Nat.lt_of_lt_of_le (A_g).lt (Nat.le_of_eq g3.symm)
  have lt_q1_ad3 : @LT.lt Nat _ q1 ad3 := Nat.lt_of_lt_of_le (A_s).lt (Nat.le_of_eq g3.symm)
  have ge_ad3 : n0 ≤ ad3 := Nat.le_trans Z0 (Nat.le_of_eq g3.symm)
  have sz_ad3 : n0 ≤ h3.size := Nat.le_trans Z0 E3.1
  have V3 : Arv Z h3 ad3 kc3 .int (3 : Int32) [(.int (0 : Int32)), (.int (0 : Int32)), (.int (0 : Int32))] (.int (0 : Int32)) := (Arv.new A3 (by decide)).pad (pad_rep [] _ 3)
  refine OwnW.astore (pc' := 35) (L' := #[.val (.ref o), .val (.ref q0), .val (.ref q1), .val (.int (2 : Int32)), .val (.ref ad3), .unset, .unset, .unset, .unset]) d1_33 (rfl) rfl rfl ?_
  refine OwnW.iconst (pc' := 36) (v := (0 : Int32)) d1_35 rfl rfl ?_
  refine OwnW.istore (pc' := 38) (L' := #[.val (.ref o), .val (.ref q0), .val (.ref q1), .val (.int (2 : Int32)), .val (.ref ad3), .val (.int (0 : Int32)), .unset, .unset, .unset]) d1_36 rfl rfl ?_
  refine OwnW.iload (pc' := 40) d1_38 rfl rfl ?_
  refine OwnW.aloadN (pc' := 41) d1_40 rfl (rfl) rfl ?_
  have F4 := (A_g.ext E3)
  obtain ⟨cl5, Ar5, qk5, Sz5, Mn5, Hv5, Gf5⟩ := id F4
  refine OwnW.alen (pc' := 42) (x := (3 : Int32)) d1_41 Ar5 (len_of Sz5 Mn5) rfl ?_
  refine OwnW.icmpN (pc' := 45) d1_42 (tlt (by decide)).2.1 rfl ?_
  refine OwnW.aloadN (pc' := 46) d1_45 rfl (rfl) rfl ?_
  refine OwnW.iload (pc' := 48) d1_46 rfl rfl ?_
  obtain ⟨cl6, Ar6, qk6, Sz6, Mn6, Hv6, Gf6⟩ := id F4
  refine OwnW.iaload (pc' := 49) (v := (.int g0)) d1_48 Ar6 (inb_of Sz6 ⟨by decide, by decide⟩) (Hv6.at (inb_of Sz6 ⟨by decide, by decide⟩) rfl) rfl ?_
  refine OwnW.ifcN (pc' := 52) d1_49 ((if0 _ _).trans (flt (own_gn hg0).1).1) rfl ?_
  refine OwnW.aloadN (pc' := 53) d1_52 rfl (rfl) rfl ?_
  refine OwnW.iload (pc' := 55) d1_53 rfl rfl ?_
  obtain ⟨cl7, Ar7, qk7, Sz7, Mn7, Hv7, Gf7⟩ := id F4
  refine OwnW.iaload (pc' := 56) (v := (.int g0)) d1_55 Ar7 (inb_of Sz7 ⟨by decide, by decide⟩) (Hv7.at (inb_of Sz7 ⟨by decide, by decide⟩) rfl) rfl ?_
  refine OwnW.iloadN (pc' := 57) d1_56 rfl rfl ?_
  refine OwnW.icmpY (pc' := 79) d1_57 (flt (own_gn hg0).2).2.2.2 (by decide) (by decide) ?_
  refine OwnW.aloadN (pc' := 80) d1_79 rfl (rfl) rfl ?_
  refine OwnW.iload (pc' := 82) d1_80 rfl rfl ?_
  have F8 := (A_s.ext E3)
  obtain ⟨cl9, Ar9, qk9, Sz9, Mn9, Hv9, Gf9⟩ := id F8
  refine OwnW.daload (pc' := 83) (v := (.double s0)) d1_82 Ar9 (inb_of Sz9 ⟨by decide, by decide⟩) (Hv9.at (inb_of Sz9 ⟨by decide, by decide⟩) rfl) rfl ?_
  refine OwnW.dconst0 (pc' := 84) (v := (0 : UInt64)) d1_83 (by decide +kernel) rfl ?_
  refine OwnW.dcmp (pc' := 85) d1_84 rfl rfl ?_
  refine OwnW.ifcN (pc' := 88) d1_85 ((if0 _ _).trans (flt (hs0).1).1) rfl ?_
  refine OwnW.aloadN (pc' := 89) d1_88 rfl (rfl) rfl ?_
  refine OwnW.iload (pc' := 91) d1_89 rfl rfl ?_
  obtain ⟨cl10, Ar10, qk10, Sz10, Mn10, Hv10, Gf10⟩ := id F8
  refine OwnW.daload (pc' := 92) (v := (.double s0)) d1_91 Ar10 (inb_of Sz10 ⟨by decide, by decide⟩) (Hv10.at (inb_of Sz10 ⟨by decide, by decide⟩) rfl) rfl ?_
  refine OwnW.dconst1 (pc' := 93) (v := (4607182418800017408 : UInt64)) d1_92 (by decide +kernel) rfl ?_
  refine OwnW.dcmp (pc' := 94) d1_93 rfl rfl ?_
  refine OwnW.ifcN (pc' := 97) d1_94 ((if0 _ _).trans (flt (hs0).2.1).2.2.1) rfl ?_
  refine OwnW.aloadN (pc' := 98) d1_97 rfl (rfl) rfl ?_
  refine OwnW.iload (pc' := 100) d1_98 rfl rfl ?_
  obtain ⟨cl11, Ar11, qk11, Sz11, Mn11, Hv11, Gf11⟩ := id F4
  refine OwnW.iaload (pc' := 101) (v := (.int g0)) d1_100 Ar11 (inb_of Sz11 ⟨by decide, by decide⟩) (Hv11.at (inb_of Sz11 ⟨by decide, by decide⟩) rfl) rfl ?_
  suffices J101_132 : GoB13 l Z n0 (Q13 Z o q0 q1 kg ks g0 g1 g2 s0 s1 s2 h0) h3 1 3 132 #[.val (.ref o), .val (.ref q0), .val (.ref q1), .val (.int (2 : Int32)), .val (.ref ad3), .val (.int (0 : Int32)), .unset, .unset, .unset] [] by
    by_cases hc101 : g0 = (0 : Int32)
    ·
      refine OwnW.ifcN (pc' := 104) d1_101 ((if0 _ _).trans (teq hc101).2) rfl ?_
      refine OwnW.aloadN (pc' := 105) d1_104 rfl (rfl) rfl ?_
      refine OwnW.iload (pc' := 107) d1_105 rfl rfl ?_
      obtain ⟨cl13, Ar13, qk13, Sz13, Mn13, Hv13, Gf13⟩ := id F8
      refine OwnW.daload (pc' := 108) (v := (.double s0)) d1_107 Ar13 (inb_of Sz13 ⟨by decide, by decide⟩) (Hv13.at (inb_of Sz13 ⟨by decide, by decide⟩) rfl) rfl ?_
      refine OwnW.dconst0 (pc' := 109) (v := (0 : UInt64)) d1_108 (by decide +kernel) rfl ?_
      refine OwnW.dcmp (pc' := 110) d1_109 rfl rfl ?_
      refine OwnW.ifcY (pc' := 132) d1_110 ((if0 _ _).trans (teq ((hs0).2.2 hc101)).1) (by decide) (by decide) ?_
      exact J101_132
    ·
      refine OwnW.ifcY (pc' := 132) d1_101 ((if0 _ _).trans (feq hc101).2) (by decide) (by decide) ?_
      exact J101_132
  refine OwnW.aload (pc' := 134) d1_132 rfl (rfl) rfl ?_
  refine OwnW.aloadN (pc' := 135) d1_134 rfl (rfl) rfl ?_
  refine OwnW.iload (pc' := 137) d1_135 rfl rfl ?_
  obtain ⟨cl14, Ar14, qk14, Sz14, Mn14, Hv14, Gf14⟩ := id F4
  refine OwnW.iaload (pc' := 138) (v := (.int g0)) d1_137 Ar14 (inb_of Sz14 ⟨by decide, by decide⟩) (Hv14.at (inb_of Sz14 ⟨by decide, by decide⟩) rfl) rfl ?_
  refine OwnW.dup2 (pc' := 139) d1_138 rfl rfl rfl ?_
  obtain ⟨C15, hC15⟩ : ∃ z : List Int32, z = [(0 : Int32), (0 : Int32), (0 : Int32)] := ⟨_, rfl⟩
  have VC15 : Arv Z h3 ad3 kc3 .int (3 : Int32) (C15.map Value.int) (.int (0 : Int32)) := by rw [hC15]; exact V3
  have lC15 : C15.length = 3 := by rw [hC15]; rfl
  obtain ⟨cl16, Ar16, qk16, Sz16, Mn16, Hv16, Gf16⟩ := id VC15
  refine OwnW.iaload (pc' := 140) (v := .int (C15.getD g0.toNatClampNeg 0)) d1_139 Ar16 (inb_of Sz16 (own_bd hg0)) (Hv16.at (inb_of Sz16 (own_bd hg0)) (own_gd C15 g0.toNatClampNeg)) rfl ?_
  show GoB13 l Z n0 (Q13 Z o q0 q1 kg ks g0 g1 g2 s0 s1 s2 h0) h3 1 3 140 #[.val (.ref o), .val (.ref q0), .val (.ref q1), .val (.int (2 : Int32)), .val (.ref ad3), .val (.int (0 : Int32)), .unset, .unset, .unset] [(.int (C15.getD g0.toNatClampNeg 0)), (.int g0), (.ref ad3)]
  refine OwnW.iconst (pc' := 141) (v := (1 : Int32)) d1_140 rfl rfl ?_
  refine OwnW.iadd (pc' := 142) d1_141 rfl ?_
  obtain ⟨cl17, Ar17, qk17, Sz17, Mn17, Hv17, Gf17⟩ := id VC15
  refine OwnW.stI (pc' := 143) d1_142 Ar17 (inb_of Sz17 (own_bd hg0)) ge_ad3 rfl ?_
  intro h17 W17
  have sz19 : n0 ≤ h17.size := (by rw [W17.size]; exact sz_ad3)
  obtain ⟨C18, hC18⟩ : ∃ z : List Int32, z = (C15.set g0.toNatClampNeg ((C15.getD g0.toNatClampNeg 0) + (1 : Int32))) := ⟨_, rfl⟩
  have VC18 : Arv Z h17 ad3 kc3 .int (3 : Int32) (C18.map Value.int) (.int (0 : Int32)) := by rw [hC18, List.map_set]; exact Arv.set Ar17 qk17 Sz17 Mn17 Hv17 Gf17 rfl W17 g0.toNatClampNeg rfl (own_ln (z := (3 : Int32)) lC15 (own_bd hg0))
  have lC18 : C18.length = 3 := by rw [hC18, List.length_set]; exact lC15
  show GoB13 l Z n0 (Q13 Z o q0 q1 kg ks g0 g1 g2 s0 s1 s2 h0) h17 1 3 143 #[.val (.ref o), .val (.ref q0), .val (.ref q1), .val (.int (2 : Int32)), .val (.ref ad3), .val (.int (0 : Int32)), .unset, .unset, .unset] []
  refine OwnW.iinc (pc' := 146) (L' := #[.val (.ref o), .val (.ref q0), .val (.ref q1), .val (.int (2 : Int32)), .val (.ref ad3), .val (.int (1 : Int32)), .unset, .unset, .unset]) (d := (1 : Int32)) d1_143 rfl rfl rfl rfl ?_
  refine OwnW.goto (pc' := 38) d1_146 (by decide) (by decide) ?_
  refine OwnW.iload (pc' := 40) d1_38 rfl rfl ?_
  refine OwnW.aloadN (pc' := 41) d1_40 rfl (rfl) rfl ?_
  have F20 := (F4.other W17 (Nat.ne_of_lt lt_q0_ad3))
  obtain ⟨cl21, Ar21, qk21, Sz21, Mn21, Hv21, Gf21⟩ := id F20
  refine OwnW.alen (pc' := 42) (x := (3 : Int32)) d1_41 Ar21 (len_of Sz21 Mn21) rfl ?_
  refine OwnW.icmpN (pc' := 45) d1_42 (tlt (by decide)).2.1 rfl ?_
  refine OwnW.aloadN (pc' := 46) d1_45 rfl (rfl) rfl ?_
  refine OwnW.iload (pc' := 48) d1_46 rfl rfl ?_
  obtain ⟨cl22, Ar22, qk22, Sz22, Mn22, Hv22, Gf22⟩ := id F20
  refine OwnW.iaload (pc' := 49) (v := (.int g1)) d1_48 Ar22 (inb_of Sz22 ⟨by decide, by decide⟩) (Hv22.at (inb_of Sz22 ⟨by decide, by decide⟩) rfl) rfl ?_
  refine OwnW.ifcN (pc' := 52) d1_49 ((if0 _ _).trans (flt (own_gn hg1).1).1) rfl ?_
  refine OwnW.aloadN (pc' := 53) d1_52 rfl (rfl) rfl ?_
  refine OwnW.iload (pc' := 55) d1_53 rfl rfl ?_
  obtain ⟨cl23, Ar23, qk23, Sz23, Mn23, Hv23, Gf23⟩ := id F20
  refine OwnW.iaload (pc' := 56) (v := (.int g1)) d1_55 Ar23 (inb_of Sz23 ⟨by decide, by decide⟩) (Hv23.at (inb_of Sz23 ⟨by decide, by decide⟩) rfl) rfl ?_
  refine OwnW.iloadN (pc' := 57) d1_56 rfl rfl ?_
  refine OwnW.icmpY (pc' := 79) d1_57 (flt (own_gn hg1).2).2.2.2 (by decide) (by decide) ?_
  refine OwnW.aloadN (pc' := 80) d1_79 rfl (rfl) rfl ?_
  refine OwnW.iload (pc' := 82) d1_80 rfl rfl ?_
  have F24 := (F8.other W17 (Nat.ne_of_lt lt_q1_ad3))
  obtain ⟨cl25, Ar25, qk25, Sz25, Mn25, Hv25, Gf25⟩ := id F24
  refine OwnW.daload (pc' := 83) (v := (.double s1)) d1_82 Ar25 (inb_of Sz25 ⟨by decide, by decide⟩) (Hv25.at (inb_of Sz25 ⟨by decide, by decide⟩) rfl) rfl ?_
  refine OwnW.dconst0 (pc' := 84) (v := (0 : UInt64)) d1_83 (by decide +kernel) rfl ?_
  refine OwnW.dcmp (pc' := 85) d1_84 rfl rfl ?_
  refine OwnW.ifcN (pc' := 88) d1_85 ((if0 _ _).trans (flt (hs1).1).1) rfl ?_
  refine OwnW.aloadN (pc' := 89) d1_88 rfl (rfl) rfl ?_
  refine OwnW.iload (pc' := 91) d1_89 rfl rfl ?_
  obtain ⟨cl26, Ar26, qk26, Sz26, Mn26, Hv26, Gf26⟩ := id F24
  refine OwnW.daload (pc' := 92) (v := (.double s1)) d1_91 Ar26 (inb_of Sz26 ⟨by decide, by decide⟩) (Hv26.at (inb_of Sz26 ⟨by decide, by decide⟩) rfl) rfl ?_
  refine OwnW.dconst1 (pc' := 93) (v := (4607182418800017408 : UInt64)) d1_92 (by decide +kernel) rfl ?_
  refine OwnW.dcmp (pc' := 94) d1_93 rfl rfl ?_
  refine OwnW.ifcN (pc' := 97) d1_94 ((if0 _ _).trans (flt (hs1).2.1).2.2.1) rfl ?_
  refine OwnW.aloadN (pc' := 98) d1_97 rfl (rfl) rfl ?_
  refine OwnW.iload (pc' := 100) d1_98 rfl rfl ?_
  obtain ⟨cl27, Ar27, qk27, Sz27, Mn27, Hv27, Gf27⟩ := id F20
  refine OwnW.iaload (pc' := 101) (v := (.int g1)) d1_100 Ar27 (inb_of Sz27 ⟨by decide, by decide⟩) (Hv27.at (inb_of Sz27 ⟨by decide, by decide⟩) rfl) rfl ?_
  suffices J101_132 : GoB13 l Z n0 (Q13 Z o q0 q1 kg ks g0 g1 g2 s0 s1 s2 h0) h17 1 3 132 #[.val (.ref o), .val (.ref q0), .val (.ref q1), .val (.int (2 : Int32)), .val (.ref ad3), .val (.int (1 : Int32)), .unset, .unset, .unset] [] by
    by_cases hc101 : g1 = (0 : Int32)
    ·
      refine OwnW.ifcN (pc' := 104) d1_101 ((if0 _ _).trans (teq hc101).2) rfl ?_
      refine OwnW.aloadN (pc' := 105) d1_104 rfl (rfl) rfl ?_
      refine OwnW.iload (pc' := 107) d1_105 rfl rfl ?_
      obtain ⟨cl29, Ar29, qk29, Sz29, Mn29, Hv29, Gf29⟩ := id F24
      refine OwnW.daload (pc' := 108) (v := (.double s1)) d1_107 Ar29 (inb_of Sz29 ⟨by decide, by decide⟩) (Hv29.at (inb_of Sz29 ⟨by decide, by decide⟩) rfl) rfl ?_
      refine OwnW.dconst0 (pc' := 109) (v := (0 : UInt64)) d1_108 (by decide +kernel) rfl ?_
      refine OwnW.dcmp (pc' := 110) d1_109 rfl rfl ?_
      refine OwnW.ifcY (pc' := 132) d1_110 ((if0 _ _).trans (teq ((hs1).2.2 hc101)).1) (by decide) (by decide) ?_
      exact J101_132
    ·
      refine OwnW.ifcY (pc' := 132) d1_101 ((if0 _ _).trans (feq hc101).2) (by decide) (by decide) ?_
      exact J101_132
  refine OwnW.aload (pc' := 134) d1_132 rfl (rfl) rfl ?_
  refine OwnW.aloadN (pc' := 135) d1_134 rfl (rfl) rfl ?_
  refine OwnW.iload (pc' := 137) d1_135 rfl rfl ?_
  obtain ⟨cl30, Ar30, qk30, Sz30, Mn30, Hv30, Gf30⟩ := id F20
  refine OwnW.iaload (pc' := 138) (v := (.int g1)) d1_137 Ar30 (inb_of Sz30 ⟨by decide, by decide⟩) (Hv30.at (inb_of Sz30 ⟨by decide, by decide⟩) rfl) rfl ?_
  refine OwnW.dup2 (pc' := 139) d1_138 rfl rfl rfl ?_
  obtain ⟨cl31, Ar31, qk31, Sz31, Mn31, Hv31, Gf31⟩ := id VC18
  refine OwnW.iaload (pc' := 140) (v := .int (C18.getD g1.toNatClampNeg 0)) d1_139 Ar31 (inb_of Sz31 (own_bd hg1)) (Hv31.at (inb_of Sz31 (own_bd hg1)) (own_gd C18 g1.toNatClampNeg)) rfl ?_
  show GoB13 l Z n0 (Q13 Z o q0 q1 kg ks g0 g1 g2 s0 s1 s2 h0) h17 1 3 140 #[.val (.ref o), .val (.ref q0), .val (.ref q1), .val (.int (2 : Int32)), .val (.ref ad3), .val (.int (1 : Int32)), .unset, .unset, .unset] [(.int (C18.getD g1.toNatClampNeg 0)), (.int g1), (.ref ad3)]
  refine OwnW.iconst (pc' := 141) (v := (1 : Int32)) d1_140 rfl rfl ?_
  refine OwnW.iadd (pc' := 142) d1_141 rfl ?_
  obtain ⟨cl32, Ar32, qk32, Sz32, Mn32, Hv32, Gf32⟩ := id VC18
  refine OwnW.stI (pc' := 143) d1_142 Ar32 (inb_of Sz32 (own_bd hg1)) ge_ad3 rfl ?_
  intro h32 W32
  have sz34 : n0 ≤ h32.size := (by rw [W32.size]; exact sz19)
  obtain ⟨C33, hC33⟩ : ∃ z : List Int32, z = (C18.set g1.toNatClampNeg ((C18.getD g1.toNatClampNeg 0) + (1 : Int32))) := ⟨_, rfl⟩
  have VC33 : Arv Z h32 ad3 kc3 .int (3 : Int32) (C33.map Value.int) (.int (0 : Int32)) := by rw [hC33, List.map_set]; exact Arv.set Ar32 qk32 Sz32 Mn32 Hv32 Gf32 rfl W32 g1.toNatClampNeg rfl (own_ln (z := (3 : Int32)) lC18 (own_bd hg1))
  have lC33 : C33.length = 3 := by rw [hC33, List.length_set]; exact lC18
  show GoB13 l Z n0 (Q13 Z o q0 q1 kg ks g0 g1 g2 s0 s1 s2 h0) h32 1 3 143 #[.val (.ref o), .val (.ref q0), .val (.ref q1), .val (.int (2 : Int32)), .val (.ref ad3), .val (.int (1 : Int32)), .unset, .unset, .unset] []
  refine OwnW.iinc (pc' := 146) (L' := #[.val (.ref o), .val (.ref q0), .val (.ref q1), .val (.int (2 : Int32)), .val (.ref ad3), .val (.int (2 : Int32)), .unset, .unset, .unset]) (d := (1 : Int32)) d1_143 rfl rfl rfl rfl ?_
  refine OwnW.goto (pc' := 38) d1_146 (by decide) (by decide) ?_
  refine OwnW.iload (pc' := 40) d1_38 rfl rfl ?_
  refine OwnW.aloadN (pc' := 41) d1_40 rfl (rfl) rfl ?_
  have F35 := (F20.other W32 (Nat.ne_of_lt lt_q0_ad3))
  obtain ⟨cl36, Ar36, qk36, Sz36, Mn36, Hv36, Gf36⟩ := id F35
  refine OwnW.alen (pc' := 42) (x := (3 : Int32)) d1_41 Ar36 (len_of Sz36 Mn36) rfl ?_
  refine OwnW.icmpN (pc' := 45) d1_42 (tlt (by decide)).2.1 rfl ?_
  refine OwnW.aloadN (pc' := 46) d1_45 rfl (rfl) rfl ?_
  refine OwnW.iload (pc' := 48) d1_46 rfl rfl ?_
  obtain ⟨cl37, Ar37, qk37, Sz37, Mn37, Hv37, Gf37⟩ := id F35
  refine OwnW.iaload (pc' := 49) (v := (.int g2)) d1_48 Ar37 (inb_of Sz37 ⟨by decide, by decide⟩) (Hv37.at (inb_of Sz37 ⟨by decide, by decide⟩) rfl) rfl ?_
  refine OwnW.ifcN (pc' := 52) d1_49 ((if0 _ _).trans (flt (own_gn hg2).1).1) rfl ?_
  refine OwnW.aloadN (pc' := 53) d1_52 rfl (rfl) rfl ?_
  refine OwnW.iload (pc' := 55) d1_53 rfl rfl ?_
  obtain ⟨cl38, Ar38, qk38, Sz38, Mn38, Hv38, Gf38⟩ := id F35
  refine OwnW.iaload (pc' := 56) (v := (.int g2)) d1_55 Ar38 (inb_of Sz38 ⟨by decide, by decide⟩) (Hv38.at (inb_of Sz38 ⟨by decide, by decide⟩) rfl) rfl ?_
  refine OwnW.iloadN (pc' := 57) d1_56 rfl rfl ?_
  refine OwnW.icmpY (pc' := 79) d1_57 (flt (own_gn hg2).2).2.2.2 (by decide) (by decide) ?_
  refine OwnW.aloadN (pc' := 80) d1_79 rfl (rfl) rfl ?_
  refine OwnW.iload (pc' := 82) d1_80 rfl rfl ?_
  have F39 := (F24.other W32 (Nat.ne_of_lt lt_q1_ad3))
  obtain ⟨cl40, Ar40, qk40, Sz40, Mn40, Hv40, Gf40⟩ := id F39
  refine OwnW.daload (pc' := 83) (v := (.double s2)) d1_82 Ar40 (inb_of Sz40 ⟨by decide, by decide⟩) (Hv40.at (inb_of Sz40 ⟨by decide, by decide⟩) rfl) rfl ?_
  refine OwnW.dconst0 (pc' := 84) (v := (0 : UInt64)) d1_83 (by decide +kernel) rfl ?_
  refine OwnW.dcmp (pc' := 85) d1_84 rfl rfl ?_
  refine OwnW.ifcN (pc' := 88) d1_85 ((if0 _ _).trans (flt (hs2).1).1) rfl ?_
  refine OwnW.aloadN (pc' := 89) d1_88 rfl (rfl) rfl ?_
  refine OwnW.iload (pc' := 91) d1_89 rfl rfl ?_
  obtain ⟨cl41, Ar41, qk41, Sz41, Mn41, Hv41, Gf41⟩ := id F39
  refine OwnW.daload (pc' := 92) (v := (.double s2)) d1_91 Ar41 (inb_of Sz41 ⟨by decide, by decide⟩) (Hv41.at (inb_of Sz41 ⟨by decide, by decide⟩) rfl) rfl ?_
  refine OwnW.dconst1 (pc' := 93) (v := (4607182418800017408 : UInt64)) d1_92 (by decide +kernel) rfl ?_
  refine OwnW.dcmp (pc' := 94) d1_93 rfl rfl ?_
  refine OwnW.ifcN (pc' := 97) d1_94 ((if0 _ _).trans (flt (hs2).2.1).2.2.1) rfl ?_
  refine OwnW.aloadN (pc' := 98) d1_97 rfl (rfl) rfl ?_
  refine OwnW.iload (pc' := 100) d1_98 rfl rfl ?_
  obtain ⟨cl42, Ar42, qk42, Sz42, Mn42, Hv42, Gf42⟩ := id F35
  refine OwnW.iaload (pc' := 101) (v := (.int g2)) d1_100 Ar42 (inb_of Sz42 ⟨by decide, by decide⟩) (Hv42.at (inb_of Sz42 ⟨by decide, by decide⟩) rfl) rfl ?_
  suffices J101_132 : GoB13 l Z n0 (Q13 Z o q0 q1 kg ks g0 g1 g2 s0 s1 s2 h0) h32 1 3 132 #[.val (.ref o), .val (.ref q0), .val (.ref q1), .val (.int (2 : Int32)), .val (.ref ad3), .val (.int (2 : Int32)), .unset, .unset, .unset] [] by
    by_cases hc101 : g2 = (0 : Int32)
    ·
      refine OwnW.ifcN (pc' := 104) d1_101 ((if0 _ _).trans (teq hc101).2) rfl ?_
      refine OwnW.aloadN (pc' := 105) d1_104 rfl (rfl) rfl ?_
      refine OwnW.iload (pc' := 107) d1_105 rfl rfl ?_
      obtain ⟨cl44, Ar44, qk44, Sz44, Mn44, Hv44, Gf44⟩ := id F39
      refine OwnW.daload (pc' := 108) (v := (.double s2)) d1_107 Ar44 (inb_of Sz44 ⟨by decide, by decide⟩) (Hv44.at (inb_of Sz44 ⟨by decide, by decide⟩) rfl) rfl ?_
      refine OwnW.dconst0 (pc' := 109) (v := (0 : UInt64)) d1_108 (by decide +kernel) rfl ?_
      refine OwnW.dcmp (pc' := 110) d1_109 rfl rfl ?_
      refine OwnW.ifcY (pc' := 132) d1_110 ((if0 _ _).trans (teq ((hs2).2.2 hc101)).1) (by decide) (by decide) ?_
      exact J101_132
    ·
      refine OwnW.ifcY (pc' := 132) d1_101 ((if0 _ _).trans (feq hc101).2) (by decide) (by decide) ?_
      exact J101_132
  refine OwnW.aload (pc' := 134) d1_132 rfl (rfl) rfl ?_
  refine OwnW.aloadN (pc' := 135) d1_134 rfl (rfl) rfl ?_
  refine OwnW.iload (pc' := 137) d1_135 rfl rfl ?_
  obtain ⟨cl45, Ar45, qk45, Sz45, Mn45, Hv45, Gf45⟩ := id F35
  refine OwnW.iaload (pc' := 138) (v := (.int g2)) d1_137 Ar45 (inb_of Sz45 ⟨by decide, by decide⟩) (Hv45.at (inb_of Sz45 ⟨by decide, by decide⟩) rfl) rfl ?_
  refine OwnW.dup2 (pc' := 139) d1_138 rfl rfl rfl ?_
  obtain ⟨cl46, Ar46, qk46, Sz46, Mn46, Hv46, Gf46⟩ := id VC33
  refine OwnW.iaload (pc' := 140) (v := .int (C33.getD g2.toNatClampNeg 0)) d1_139 Ar46 (inb_of Sz46 (own_bd hg2)) (Hv46.at (inb_of Sz46 (own_bd hg2)) (own_gd C33 g2.toNatClampNeg)) rfl ?_
  show GoB13 l Z n0 (Q13 Z o q0 q1 kg ks g0 g1 g2 s0 s1 s2 h0) h32 1 3 140 #[.val (.ref o), .val (.ref q0), .val (.ref q1), .val (.int (2 : Int32)), .val (.ref ad3), .val (.int (2 : Int32)), .unset, .unset, .unset] [(.int (C33.getD g2.toNatClampNeg 0)), (.int g2), (.ref ad3)]
  refine OwnW.iconst (pc' := 141) (v := (1 : Int32)) d1_140 rfl rfl ?_
  refine OwnW.iadd (pc' := 142) d1_141 rfl ?_
  obtain ⟨cl47, Ar47, qk47, Sz47, Mn47, Hv47, Gf47⟩ := id VC33
  refine OwnW.stI (pc' := 143) d1_142 Ar47 (inb_of Sz47 (own_bd hg2)) ge_ad3 rfl ?_
  intro h47 W47
  have sz49 : n0 ≤ h47.size := (by rw [W47.size]; exact sz34)
  obtain ⟨C48, hC48⟩ : ∃ z : List Int32, z = (C33.set g2.toNatClampNeg ((C33.getD g2.toNatClampNeg 0) + (1 : Int32))) := ⟨_, rfl⟩
  have VC48 : Arv Z h47 ad3 kc3 .int (3 : Int32) (C48.map Value.int) (.int (0 : Int32)) := by rw [hC48, List.map_set]; exact Arv.set Ar47 qk47 Sz47 Mn47 Hv47 Gf47 rfl W47 g2.toNatClampNeg rfl (own_ln (z := (3 : Int32)) lC33 (own_bd hg2))
  have lC48 : C48.length = 3 := by rw [hC48, List.length_set]; exact lC33
  show GoB13 l Z n0 (Q13 Z o q0 q1 kg ks g0 g1 g2 s0 s1 s2 h0) h47 1 3 143 #[.val (.ref o), .val (.ref q0), .val (.ref q1), .val (.int (2 : Int32)), .val (.ref ad3), .val (.int (2 : Int32)), .unset, .unset, .unset] []
  refine OwnW.iinc (pc' := 146) (L' := #[.val (.ref o), .val (.ref q0), .val (.ref q1), .val (.int (2 : Int32)), .val (.ref ad3), .val (.int (3 : Int32)), .unset, .unset, .unset]) (d := (1 : Int32)) d1_143 rfl rfl rfl rfl ?_
  refine OwnW.goto (pc' := 38) d1_146 (by decide) (by decide) ?_
  refine OwnW.iload (pc' := 40) d1_38 rfl rfl ?_
  refine OwnW.aloadN (pc' := 41) d1_40 rfl (rfl) rfl ?_
  have F50 := (F35.other W47 (Nat.ne_of_lt lt_q0_ad3))
  obtain ⟨cl51, Ar51, qk51, Sz51, Mn51, Hv51, Gf51⟩ := id F50
  refine OwnW.alen (pc' := 42) (x := (3 : Int32)) d1_41 Ar51 (len_of Sz51 Mn51) rfl ?_
  refine OwnW.icmpY (pc' := 149) d1_42 (flt (by decide)).2.1 (by decide) (by decide) ?_
  refine OwnW.iloadN (pc' := 150) d1_149 rfl rfl ?_
  refine OwnW.iconst (pc' := 151) (v := (2 : Int32)) d1_150 rfl rfl ?_
  refine OwnW.iadd (pc' := 152) d1_151 rfl ?_
  show GoB13 l Z n0 (Q13 Z o q0 q1 kg ks g0 g1 g2 s0 s1 s2 h0) h47 1 3 152 #[.val (.ref o), .val (.ref q0), .val (.ref q1), .val (.int (2 : Int32)), .val (.ref ad3), .val (.int (3 : Int32)), .unset, .unset, .unset] [(.int (4 : Int32))]
  refine OwnW.newP (a0 := a0) (pc' := 154) (cap := 4) (k' := 2) (n' := 7) d1_152 (hw _ (List.mem_of_getElem? (i := 0) rfl)) (by decide) (by decide) (by decide) rfl rfl (by decide) (by decide) rfl ?_
  intro h52 kc52 ad52 g52 E52 A52
  have lt_o_ad52 : @LT.lt Nat _ o ad52 := Nat.lt_of_lt_of_le (((((E_o.ext E3).wr W17).wr W32).wr W47)).lt (Nat.le_of_eq g52.symm)
  have lt_q0_ad52 : @LT.lt Nat _ q0 ad52 := Nat.lt_of_lt_of_le (F50).lt (Nat.le_of_eq g52.symm)
  have lt_q1_ad52 : @LT.lt Nat _ q1 ad52 := Nat.lt_of_lt_of_le ((F39.other W47 (Nat.ne_of_lt lt_q1_ad3))).lt (Nat.le_of_eq g52.symm)
  have lt_ad3_ad52 : @LT.lt Nat _ ad3 ad52 := Nat.lt_of_lt_of_le (VC48).lt (Nat.le_of_eq g52.symm)
  have ge_ad52 : n0 ≤ ad52 := Nat.le_trans sz49 (Nat.le_of_eq g52.symm)
  have sz_ad52 : n0 ≤ h52.size := Nat.le_trans sz49 E52.1
  have V52 : Arv Z h52 ad52 kc52 .int (4 : Int32) [(.int (0 : Int32)), (.int (0 : Int32)), (.int (0 : Int32)), (.int (0 : Int32))] (.int (0 : Int32)) := (Arv.new A52 (by decide)).pad (pad_rep [] _ 4)
  refine OwnW.astore (pc' := 156) (L' := #[.val (.ref o), .val (.ref q0), .val (.ref q1), .val (.int (2 : Int32)), .val (.ref ad3), .val (.ref ad52), .unset, .unset, .unset]) d1_154 (rfl) rfl rfl ?_
  refine OwnW.iconst (pc' := 157) (v := (1 : Int32)) d1_156 rfl rfl ?_
  refine OwnW.istore (pc' := 159) (L' := #[.val (.ref o), .val (.ref q0), .val (.ref q1), .val (.int (2 : Int32)), .val (.ref ad3), .val (.ref ad52), .val (.int (1 : Int32)), .unset, .unset]) d1_157 rfl rfl ?_
  refine OwnW.iload (pc' := 161) d1_159 rfl rfl ?_
  refine OwnW.iloadN (pc' := 162) d1_161 rfl rfl ?_
  refine OwnW.icmpN (pc' := 165) d1_162 (flt (by decide)).2.2.1 rfl ?_
  refine OwnW.aload (pc' := 167) d1_165 rfl (rfl) rfl ?_
  refine OwnW.iload (pc' := 169) d1_167 rfl rfl ?_
  refine OwnW.iconst (pc' := 170) (v := (1 : Int32)) d1_169 rfl rfl ?_
  refine OwnW.iadd (pc' := 171) d1_170 rfl ?_
  show GoB13 l Z n0 (Q13 Z o q0 q1 kg ks g0 g1 g2 s0 s1 s2 h0) h52 2 7 171 #[.val (.ref o), .val (.ref q0), .val (.ref q1), .val (.int (2 : Int32)), .val (.ref ad3), .val (.ref ad52), .val (.int (1 : Int32)), .unset, .unset] [(.int (2 : Int32)), (.ref ad52)]
  refine OwnW.aload (pc' := 173) d1_171 rfl (rfl) rfl ?_
  refine OwnW.iload (pc' := 175) d1_173 rfl rfl ?_
  obtain ⟨C53, hC53⟩ : ∃ z : List Int32, z = [(0 : Int32), (0 : Int32), (0 : Int32), (0 : Int32)] := ⟨_, rfl⟩
  have VC53 : Arv Z h52 ad52 kc52 .int (4 : Int32) (C53.map Value.int) (.int (0 : Int32)) := by rw [hC53]; exact V52
  have lC53 : C53.length = 4 := by rw [hC53]; rfl
  obtain ⟨cl54, Ar54, qk54, Sz54, Mn54, Hv54, Gf54⟩ := id VC53
  refine OwnW.iaload (pc' := 176) (v := .int (C53.getD 1 0)) d1_175 Ar54 (inb_of Sz54 ⟨by decide, by decide⟩) (Hv54.at (inb_of Sz54 ⟨by decide, by decide⟩) (own_gd C53 1)) rfl ?_
  show GoB13 l Z n0 (Q13 Z o q0 q1 kg ks g0 g1 g2 s0 s1 s2 h0) h52 2 7 176 #[.val (.ref o), .val (.ref q0), .val (.ref q1), .val (.int (2 : Int32)), .val (.ref ad3), .val (.ref ad52), .val (.int (1 : Int32)), .unset, .unset] [(.int (C53.getD 1 0)), (.int (2 : Int32)), (.ref ad52)]
  refine OwnW.aload (pc' := 178) d1_176 rfl (rfl) rfl ?_
  refine OwnW.iload (pc' := 180) d1_178 rfl rfl ?_
  have F55 := (VC48.ext E52)
  obtain ⟨cl56, Ar56, qk56, Sz56, Mn56, Hv56, Gf56⟩ := id F55
  refine OwnW.iaload (pc' := 181) (v := .int (C48.getD 1 0)) d1_180 Ar56 (inb_of Sz56 ⟨by decide, by decide⟩) (Hv56.at (inb_of Sz56 ⟨by decide, by decide⟩) (own_gd C48 1)) rfl ?_
  show GoB13 l Z n0 (Q13 Z o q0 q1 kg ks g0 g1 g2 s0 s1 s2 h0) h52 2 7 181 #[.val (.ref o), .val (.ref q0), .val (.ref q1), .val (.int (2 : Int32)), .val (.ref ad3), .val (.ref ad52), .val (.int (1 : Int32)), .unset, .unset] [(.int (C48.getD 1 0)), (.int (C53.getD 1 0)), (.int (2 : Int32)), (.ref ad52)]
  refine OwnW.iadd (pc' := 182) d1_181 rfl ?_
  obtain ⟨cl57, Ar57, qk57, Sz57, Mn57, Hv57, Gf57⟩ := id VC53
  refine OwnW.stI (pc' := 183) d1_182 Ar57 (inb_of Sz57 ⟨by decide, by decide⟩) ge_ad52 rfl ?_
  intro h57 W57
  have sz59 : n0 ≤ h57.size := (by rw [W57.size]; exact sz_ad52)
  obtain ⟨C58, hC58⟩ : ∃ z : List Int32, z = (C53.set 2 ((C53.getD 1 0) + (C48.getD 1 0))) := ⟨_, rfl⟩
  have VC58 : Arv Z h57 ad52 kc52 .int (4 : Int32) (C58.map Value.int) (.int (0 : Int32)) := by rw [hC58, List.map_set]; exact Arv.set Ar57 qk57 Sz57 Mn57 Hv57 Gf57 rfl W57 2 rfl (by rw [List.length_map, lC53]; decide)
  have lC58 : C58.length = 4 := by rw [hC58, List.length_set]; exact lC53
  show GoB13 l Z n0 (Q13 Z o q0 q1 kg ks g0 g1 g2 s0 s1 s2 h0) h57 2 7 183 #[.val (.ref o), .val (.ref q0), .val (.ref q1), .val (.int (2 : Int32)), .val (.ref ad3), .val (.ref ad52), .val (.int (1 : Int32)), .unset, .unset] []
  refine OwnW.iinc (pc' := 186) (L' := #[.val (.ref o), .val (.ref q0), .val (.ref q1), .val (.int (2 : Int32)), .val (.ref ad3), .val (.ref ad52), .val (.int (2 : Int32)), .unset, .unset]) (d := (1 : Int32)) d1_183 rfl rfl rfl rfl ?_
  refine OwnW.goto (pc' := 159) d1_186 (by decide) (by decide) ?_
  refine OwnW.iload (pc' := 161) d1_159 rfl rfl ?_
  refine OwnW.iloadN (pc' := 162) d1_161 rfl rfl ?_
  refine OwnW.icmpN (pc' := 165) d1_162 (flt (by decide)).2.2.1 rfl ?_
  refine OwnW.aload (pc' := 167) d1_165 rfl (rfl) rfl ?_
  refine OwnW.iload (pc' := 169) d1_167 rfl rfl ?_
  refine OwnW.iconst (pc' := 170) (v := (1 : Int32)) d1_169 rfl rfl ?_
  refine OwnW.iadd (pc' := 171) d1_170 rfl ?_
  show GoB13 l Z n0 (Q13 Z o q0 q1 kg ks g0 g1 g2 s0 s1 s2 h0) h57 2 7 171 #[.val (.ref o), .val (.ref q0), .val (.ref q1), .val (.int (2 : Int32)), .val (.ref ad3), .val (.ref ad52), .val (.int (2 : Int32)), .unset, .unset] [(.int (3 : Int32)), (.ref ad52)]
  refine OwnW.aload (pc' := 173) d1_171 rfl (rfl) rfl ?_
  refine OwnW.iload (pc' := 175) d1_173 rfl rfl ?_
  obtain ⟨cl60, Ar60, qk60, Sz60, Mn60, Hv60, Gf60⟩ := id VC58
  refine OwnW.iaload (pc' := 176) (v := .int (C58.getD 2 0)) d1_175 Ar60 (inb_of Sz60 ⟨by decide, by decide⟩) (Hv60.at (inb_of Sz60 ⟨by decide, by decide⟩) (own_gd C58 2)) rfl ?_
  show GoB13 l Z n0 (Q13 Z o q0 q1 kg ks g0 g1 g2 s0 s1 s2 h0) h57 2 7 176 #[.val (.ref o), .val (.ref q0), .val (.ref q1), .val (.int (2 : Int32)), .val (.ref ad3), .val (.ref ad52), .val (.int (2 : Int32)), .unset, .unset] [(.int (C58.getD 2 0)), (.int (3 : Int32)), (.ref ad52)]
  refine OwnW.aload (pc' := 178) d1_176 rfl (rfl) rfl ?_
  refine OwnW.iload (pc' := 180) d1_178 rfl rfl ?_
  have F61 := (F55.other W57 (Nat.ne_of_lt lt_ad3_ad52))
  obtain ⟨cl62, Ar62, qk62, Sz62, Mn62, Hv62, Gf62⟩ := id F61
  refine OwnW.iaload (pc' := 181) (v := .int (C48.getD 2 0)) d1_180 Ar62 (inb_of Sz62 ⟨by decide, by decide⟩) (Hv62.at (inb_of Sz62 ⟨by decide, by decide⟩) (own_gd C48 2)) rfl ?_
  show GoB13 l Z n0 (Q13 Z o q0 q1 kg ks g0 g1 g2 s0 s1 s2 h0) h57 2 7 181 #[.val (.ref o), .val (.ref q0), .val (.ref q1), .val (.int (2 : Int32)), .val (.ref ad3), .val (.ref ad52), .val (.int (2 : Int32)), .unset, .unset] [(.int (C48.getD 2 0)), (.int (C58.getD 2 0)), (.int (3 : Int32)), (.ref ad52)]
  refine OwnW.iadd (pc' := 182) d1_181 rfl ?_
  obtain ⟨cl63, Ar63, qk63, Sz63, Mn63, Hv63, Gf63⟩ := id VC58
  refine OwnW.stI (pc' := 183) d1_182 Ar63 (inb_of Sz63 ⟨by decide, by decide⟩) ge_ad52 rfl ?_
  intro h63 W63
  have sz65 : n0 ≤ h63.size := (by rw [W63.size]; exact sz59)
  obtain ⟨C64, hC64⟩ : ∃ z : List Int32, z = (C58.set 3 ((C58.getD 2 0) + (C48.getD 2 0))) := ⟨_, rfl⟩
  have VC64 : Arv Z h63 ad52 kc52 .int (4 : Int32) (C64.map Value.int) (.int (0 : Int32)) := by rw [hC64, List.map_set]; exact Arv.set Ar63 qk63 Sz63 Mn63 Hv63 Gf63 rfl W63 3 rfl (by rw [List.length_map, lC58]; decide)
  have lC64 : C64.length = 4 := by rw [hC64, List.length_set]; exact lC58
  show GoB13 l Z n0 (Q13 Z o q0 q1 kg ks g0 g1 g2 s0 s1 s2 h0) h63 2 7 183 #[.val (.ref o), .val (.ref q0), .val (.ref q1), .val (.int (2 : Int32)), .val (.ref ad3), .val (.ref ad52), .val (.int (2 : Int32)), .unset, .unset] []
  refine OwnW.iinc (pc' := 186) (L' := #[.val (.ref o), .val (.ref q0), .val (.ref q1), .val (.int (2 : Int32)), .val (.ref ad3), .val (.ref ad52), .val (.int (3 : Int32)), .unset, .unset]) (d := (1 : Int32)) d1_183 rfl rfl rfl rfl ?_
  refine OwnW.goto (pc' := 159) d1_186 (by decide) (by decide) ?_
  refine OwnW.iload (pc' := 161) d1_159 rfl rfl ?_
  refine OwnW.iloadN (pc' := 162) d1_161 rfl rfl ?_
  refine OwnW.icmpY (pc' := 189) d1_162 (tlt (by decide)).2.2.1 (by decide) (by decide) ?_
  refine OwnW.aload (pc' := 191) d1_189 rfl (rfl) rfl ?_
  refine OwnW.iloadN (pc' := 192) d1_191 rfl rfl ?_
  refine OwnW.iconst (pc' := 193) (v := (1 : Int32)) d1_192 rfl rfl ?_
  refine OwnW.iadd (pc' := 194) d1_193 rfl ?_
  show GoB13 l Z n0 (Q13 Z o q0 q1 kg ks g0 g1 g2 s0 s1 s2 h0) h63 2 7 194 #[.val (.ref o), .val (.ref q0), .val (.ref q1), .val (.int (2 : Int32)), .val (.ref ad3), .val (.ref ad52), .val (.int (3 : Int32)), .unset, .unset] [(.int (3 : Int32)), (.ref ad52)]
  obtain ⟨cl66, Ar66, qk66, Sz66, Mn66, Hv66, Gf66⟩ := id VC64
  refine OwnW.iaload (pc' := 195) (v := .int (C64.getD 3 0)) d1_194 Ar66 (inb_of Sz66 ⟨by decide, by decide⟩) (Hv66.at (inb_of Sz66 ⟨by decide, by decide⟩) (own_gd C64 3)) rfl ?_
  show GoB13 l Z n0 (Q13 Z o q0 q1 kg ks g0 g1 g2 s0 s1 s2 h0) h63 2 7 195 #[.val (.ref o), .val (.ref q0), .val (.ref q1), .val (.int (2 : Int32)), .val (.ref ad3), .val (.ref ad52), .val (.int (3 : Int32)), .unset, .unset] [(.int (C64.getD 3 0))]
  obtain ⟨tt, htt⟩ : ∃ z, z = (C64.getD 3 0) := ⟨_, rfl⟩
  rw [← htt]
  show GoB13 l Z n0 (Q13 Z o q0 q1 kg ks g0 g1 g2 s0 s1 s2 h0) h63 2 7 195 #[.val (.ref o), .val (.ref q0), .val (.ref q1), .val (.int (2 : Int32)), .val (.ref ad3), .val (.ref ad52), .val (.int (3 : Int32)), .unset, .unset] [(.int tt)]
  have ht2 := own_tt3 hg0 hg1 hg2 hC15 hC18 hC33 hC48 hC53 hC58 hC64 htt
  refine OwnW.newP (a0 := a0) (pc' := 197) (cap := 3) (k' := 3) (n' := 10) d1_195 (hw _ (List.mem_of_getElem? (i := 0) rfl)) ht2.1 ht2.2 (by decide) rfl rfl (by decide) (by decide) rfl ?_
  intro hm km am gm Em Am
  have lt_o_am : @LT.lt Nat _ o am := Nat.lt_of_lt_of_le ((((((((E_o.ext E3).wr W17).wr W32).wr W47).ext E52).wr W57).wr W63)).lt (Nat.le_of_eq gm.symm)
  have lt_q0_am : @LT.lt Nat _ q0 am := Nat.lt_of_lt_of_le ((((F50.ext E52).other W57 (Nat.ne_of_lt lt_q0_ad52)).other W63 (Nat.ne_of_lt lt_q0_ad52))).lt (Nat.le_of_eq gm.symm)
  have lt_q1_am : @LT.lt Nat _ q1 am := Nat.lt_of_lt_of_le (((((F39.other W47 (Nat.ne_of_lt lt_q1_ad3)).ext E52).other W57 (Nat.ne_of_lt lt_q1_ad52)).other W63 (Nat.ne_of_lt lt_q1_ad52))).lt (Nat.le_of_eq gm.symm)
  have lt_ad3_am : @LT.lt Nat _ ad3 am := Nat.lt_of_lt_of_le ((F61.other W63 (Nat.ne_of_lt lt_ad3_ad52))).lt (Nat.le_of_eq gm.symm)
  have lt_ad52_am : @LT.lt Nat _ ad52 am := Nat.lt_of_lt_of_le (VC64).lt (Nat.le_of_eq gm.symm)
  have ge_am : n0 ≤ am := Nat.le_trans sz65 (Nat.le_of_eq gm.symm)
  have sz_am : n0 ≤ hm.size := Nat.le_trans sz65 Em.1
  have Ym : Wk Z hm am tt := ⟨_, Am, sz_new _ _ _⟩
  show GoB13 l Z n0 (Q13 Z o q0 q1 kg ks g0 g1 g2 s0 s1 s2 h0) hm 3 10 197 #[.val (.ref o), .val (.ref q0), .val (.ref q1), .val (.int (2 : Int32)), .val (.ref ad3), .val (.ref ad52), .val (.int (3 : Int32)), .unset, .unset] [(.ref am)]
  refine OwnW.astore (pc' := 199) (L' := #[.val (.ref o), .val (.ref q0), .val (.ref q1), .val (.int (2 : Int32)), .val (.ref ad3), .val (.ref ad52), .val (.ref am), .unset, .unset]) d1_197 (rfl) rfl rfl ?_
  refine OwnW.aload (pc' := 201) d1_199 rfl (rfl) rfl ?_
  refine OwnW.iloadN (pc' := 202) d1_201 rfl rfl ?_
  refine OwnW.iconst (pc' := 203) (v := (1 : Int32)) d1_202 rfl rfl ?_
  refine OwnW.iadd (pc' := 204) d1_203 rfl ?_
  show GoB13 l Z n0 (Q13 Z o q0 q1 kg ks g0 g1 g2 s0 s1 s2 h0) hm 3 10 204 #[.val (.ref o), .val (.ref q0), .val (.ref q1), .val (.int (2 : Int32)), .val (.ref ad3), .val (.ref ad52), .val (.ref am), .unset, .unset] [(.int (3 : Int32)), (.ref ad52)]
  have F67 := (VC64.ext Em)
  refine OwnW.callS (a0 := a0) (pc' := 207) (W := 0) (k' := 4) (n' := 13) (argsL := [(.ref ad52), (.int (3 : Int32))]) (rest := []) d1_204 (hw _ (List.mem_of_getElem? (i := 11) rfl)) (hw _ (List.mem_of_getElem? (i := 12) rfl)) (hw _ (List.mem_of_getElem? (i := 13) rfl)) (hw _ (List.mem_of_getElem? (i := 14) rfl)) (by decide) (rm3 l Z a0 hw ad52 kc52 C64 hm n0 sz_am F67) (by decide) (by decide) rfl rfl (by decide) (by decide) rfl pd_285bII295bI rfl rfl rfl (Nat.le_of_ble_eq_true rfl) rfl ?_
  rintro h68 v68 ⟨ad68_0, kc68_0, rfl, K68, gl68_0, Fc68_0⟩
  have lt_o_ad68_0 : @LT.lt Nat _ o ad68_0 := Nat.lt_of_lt_of_le (((((((((E_o.ext E3).wr W17).wr W32).wr W47).ext E52).wr W57).wr W63).ext Em)).lt gl68_0
  have lt_q0_ad68_0 : @LT.lt Nat _ q0 ad68_0 := Nat.lt_of_lt_of_le (((((F50.ext E52).other W57 (Nat.ne_of_lt lt_q0_ad52)).other W63 (Nat.ne_of_lt lt_q0_ad52)).ext Em)).lt gl68_0
  have lt_q1_ad68_0 : @LT.lt Nat _ q1 ad68_0 := Nat.lt_of_lt_of_le ((((((F39.other W47 (Nat.ne_of_lt lt_q1_ad3)).ext E52).other W57 (Nat.ne_of_lt lt_q1_ad52)).other W63 (Nat.ne_of_lt lt_q1_ad52)).ext Em)).lt gl68_0
  have lt_ad3_ad68_0 : @LT.lt Nat _ ad3 ad68_0 := Nat.lt_of_lt_of_le (((F61.other W63 (Nat.ne_of_lt lt_ad3_ad52)).ext Em)).lt gl68_0
  have lt_ad52_ad68_0 : @LT.lt Nat _ ad52 ad68_0 := Nat.lt_of_lt_of_le (F67).lt gl68_0
  have lt_am_ad68_0 : @LT.lt Nat _ am ad68_0 := Nat.lt_of_lt_of_le (Ym).lt gl68_0
  have ge_ad68_0 : n0 ≤ ad68_0 := Nat.le_trans sz_am gl68_0
  have sz69 : n0 ≤ h68.size := Nat.le_trans sz_am K68.1
  show GoB13 l Z n0 (Q13 Z o q0 q1 kg ks g0 g1 g2 s0 s1 s2 h0) h68 4 13 207 #[.val (.ref o), .val (.ref q0), .val (.ref q1), .val (.int (2 : Int32)), .val (.ref ad3), .val (.ref ad52), .val (.ref am), .unset, .unset] [(.ref ad68_0)]
  refine OwnW.astore (pc' := 209) (L' := #[.val (.ref o), .val (.ref q0), .val (.ref q1), .val (.int (2 : Int32)), .val (.ref ad3), .val (.ref ad52), .val (.ref am), .val (.ref ad68_0), .unset]) d1_207 (rfl) rfl rfl ?_
  refine OwnW.iconst (pc' := 210) (v := (0 : Int32)) d1_209 rfl rfl ?_
  refine OwnW.istore (pc' := 212) (L' := #[.val (.ref o), .val (.ref q0), .val (.ref q1), .val (.int (2 : Int32)), .val (.ref ad3), .val (.ref ad52), .val (.ref am), .val (.ref ad68_0), .val (.int (0 : Int32))]) d1_210 rfl rfl ?_
  refine OwnW.iload (pc' := 214) d1_212 rfl rfl ?_
  refine OwnW.aloadN (pc' := 215) d1_214 rfl (rfl) rfl ?_
  have F70 := (((((F50.ext E52).other W57 (Nat.ne_of_lt lt_q0_ad52)).other W63 (Nat.ne_of_lt lt_q0_ad52)).ext Em).keep K68 nin0)
  obtain ⟨cl71, Ar71, qk71, Sz71, Mn71, Hv71, Gf71⟩ := id F70
  refine OwnW.alen (pc' := 216) (x := (3 : Int32)) d1_215 Ar71 (len_of Sz71 Mn71) rfl ?_
  refine OwnW.icmpN (pc' := 219) d1_216 (tlt (by decide)).2.1 rfl ?_
  refine OwnW.aloadN (pc' := 220) d1_219 rfl (rfl) rfl ?_
  refine OwnW.iload (pc' := 222) d1_220 rfl rfl ?_
  obtain ⟨cl72, Ar72, qk72, Sz72, Mn72, Hv72, Gf72⟩ := id F70
  refine OwnW.iaload (pc' := 223) (v := (.int g0)) d1_222 Ar72 (inb_of Sz72 ⟨by decide, by decide⟩) (Hv72.at (inb_of Sz72 ⟨by decide, by decide⟩) rfl) rfl ?_
  by_cases hc223 : (0 : Int32) < g0
  ·
    refine OwnW.ifcN (pc' := 226) d1_223 ((if0 _ _).trans (tlt hc223).2.2.2) rfl ?_
    refine OwnW.aload (pc' := 228) d1_226 rfl (rfl) rfl ?_
    refine OwnW.aload (pc' := 230) d1_228 rfl (rfl) rfl ?_
    refine OwnW.aloadN (pc' := 231) d1_230 rfl (rfl) rfl ?_
    refine OwnW.iload (pc' := 233) d1_231 rfl rfl ?_
    obtain ⟨cl73, Ar73, qk73, Sz73, Mn73, Hv73, Gf73⟩ := id F70
    refine OwnW.iaload (pc' := 234) (v := (.int g0)) d1_233 Ar73 (inb_of Sz73 ⟨by decide, by decide⟩) (Hv73.at (inb_of Sz73 ⟨by decide, by decide⟩) rfl) rfl ?_
    refine OwnW.dup2 (pc' := 235) d1_234 rfl rfl rfl ?_
    obtain ⟨C74, hC74⟩ : ∃ z : List Int32, z = [(C64.getD 0 0), (C64.getD 1 0), (C64.getD 2 0)] := ⟨_, rfl⟩
    have VC74 : Arv Z h68 ad68_0 kc68_0 .int (3 : Int32) (C74.map Value.int) (.int (0 : Int32)) := by rw [hC74]; exact Fc68_0
    have lC74 : C74.length = 3 := by rw [hC74]; rfl
    obtain ⟨cl75, Ar75, qk75, Sz75, Mn75, Hv75, Gf75⟩ := id VC74
    refine OwnW.iaload (pc' := 236) (v := .int (C74.getD g0.toNatClampNeg 0)) d1_235 Ar75 (inb_of Sz75 (own_bd hg0)) (Hv75.at (inb_of Sz75 (own_bd hg0)) (own_gd C74 g0.toNatClampNeg)) rfl ?_
    show GoB13 l Z n0 (Q13 Z o q0 q1 kg ks g0 g1 g2 s0 s1 s2 h0) h68 4 13 236 #[.val (.ref o), .val (.ref q0), .val (.ref q1), .val (.int (2 : Int32)), .val (.ref ad3), .val (.ref ad52), .val (.ref am), .val (.ref ad68_0), .val (.int (0 : Int32))] [(.int (C74.getD g0.toNatClampNeg 0)), (.int g0), (.ref ad68_0), (.ref am)]
    refine OwnW.dupX2 (pc' := 237) d1_236 rfl ?_
    refine OwnW.iconst (pc' := 238) (v := (1 : Int32)) d1_237 rfl rfl ?_
    refine OwnW.iadd (pc' := 239) d1_238 rfl ?_
    obtain ⟨cl76, Ar76, qk76, Sz76, Mn76, Hv76, Gf76⟩ := id VC74
    refine OwnW.stI (pc' := 240) d1_239 Ar76 (inb_of Sz76 (own_bd hg0)) ge_ad68_0 rfl ?_
    intro h76 W76
    have sz78 : n0 ≤ h76.size := (by rw [W76.size]; exact sz69)
    obtain ⟨C77, hC77⟩ : ∃ z : List Int32, z = (C74.set g0.toNatClampNeg ((C74.getD g0.toNatClampNeg 0) + (1 : Int32))) := ⟨_, rfl⟩
    have VC77 : Arv Z h76 ad68_0 kc68_0 .int (3 : Int32) (C77.map Value.int) (.int (0 : Int32)) := by rw [hC77, List.map_set]; exact Arv.set Ar76 qk76 Sz76 Mn76 Hv76 Gf76 rfl W76 g0.toNatClampNeg rfl (own_ln (z := (3 : Int32)) lC74 (own_bd hg0))
    have lC77 : C77.length = 3 := by rw [hC77, List.length_set]; exact lC74
    show GoB13 l Z n0 (Q13 Z o q0 q1 kg ks g0 g1 g2 s0 s1 s2 h0) h76 4 13 240 #[.val (.ref o), .val (.ref q0), .val (.ref q1), .val (.int (2 : Int32)), .val (.ref ad3), .val (.ref ad52), .val (.ref am), .val (.ref ad68_0), .val (.int (0 : Int32))] [(.int (C74.getD g0.toNatClampNeg 0)), (.ref am)]
    refine OwnW.iload (pc' := 242) d1_240 rfl rfl ?_
    have F80 := ((Ym.keep K68 nin0).other W76 (Nat.ne_of_lt lt_am_ad68_0))
    obtain ⟨cl79, Ar79, Sz79⟩ := id F80
    refine OwnW.stI (pc' := 243) d1_242 Ar79 (inb_of Sz79 (own_mb3_0 hg0 hg1 hg2 hC15 hC18 hC33 hC48 hC53 hC58 hC64 hC74 hC77 htt hc223)) ge_am rfl ?_
    intro h79 W79
    have sz81 : n0 ≤ h79.size := (by rw [W79.size]; exact sz78)
    have Y79 : Wk Z h79 am tt := Wk.same ⟨cl79, Ar79, Sz79⟩ W79
    show GoB13 l Z n0 (Q13 Z o q0 q1 kg ks g0 g1 g2 s0 s1 s2 h0) h79 4 13 243 #[.val (.ref o), .val (.ref q0), .val (.ref q1), .val (.int (2 : Int32)), .val (.ref ad3), .val (.ref ad52), .val (.ref am), .val (.ref ad68_0), .val (.int (0 : Int32))] []
    refine OwnW.iinc (pc' := 246) (L' := #[.val (.ref o), .val (.ref q0), .val (.ref q1), .val (.int (2 : Int32)), .val (.ref ad3), .val (.ref ad52), .val (.ref am), .val (.ref ad68_0), .val (.int (1 : Int32))]) (d := (1 : Int32)) d1_243 rfl rfl rfl rfl ?_
    refine OwnW.goto (pc' := 212) d1_246 (by decide) (by decide) ?_
    refine OwnW.iload (pc' := 214) d1_212 rfl rfl ?_
    refine OwnW.aloadN (pc' := 215) d1_214 rfl (rfl) rfl ?_
    have F82 := ((F70.other W76 (Nat.ne_of_lt lt_q0_ad68_0)).other W79 (Nat.ne_of_lt lt_q0_am))
    obtain ⟨cl83, Ar83, qk83, Sz83, Mn83, Hv83, Gf83⟩ := id F82
    refine OwnW.alen (pc' := 216) (x := (3 : Int32)) d1_215 Ar83 (len_of Sz83 Mn83) rfl ?_
    refine OwnW.icmpN (pc' := 219) d1_216 (tlt (by decide)).2.1 rfl ?_
    refine OwnW.aloadN (pc' := 220) d1_219 rfl (rfl) rfl ?_
    refine OwnW.iload (pc' := 222) d1_220 rfl rfl ?_
    obtain ⟨cl84, Ar84, qk84, Sz84, Mn84, Hv84, Gf84⟩ := id F82
    refine OwnW.iaload (pc' := 223) (v := (.int g1)) d1_222 Ar84 (inb_of Sz84 ⟨by decide, by decide⟩) (Hv84.at (inb_of Sz84 ⟨by decide, by decide⟩) rfl) rfl ?_
    by_cases hc223_1 : (0 : Int32) < g1
    ·
      refine OwnW.ifcN (pc' := 226) d1_223 ((if0 _ _).trans (tlt hc223_1).2.2.2) rfl ?_
      refine OwnW.aload (pc' := 228) d1_226 rfl (rfl) rfl ?_
      refine OwnW.aload (pc' := 230) d1_228 rfl (rfl) rfl ?_
      refine OwnW.aloadN (pc' := 231) d1_230 rfl (rfl) rfl ?_
      refine OwnW.iload (pc' := 233) d1_231 rfl rfl ?_
      obtain ⟨cl85, Ar85, qk85, Sz85, Mn85, Hv85, Gf85⟩ := id F82
      refine OwnW.iaload (pc' := 234) (v := (.int g1)) d1_233 Ar85 (inb_of Sz85 ⟨by decide, by decide⟩) (Hv85.at (inb_of Sz85 ⟨by decide, by decide⟩) rfl) rfl ?_
      refine OwnW.dup2 (pc' := 235) d1_234 rfl rfl rfl ?_
      have F86 := (VC77.other W79 (Ne.symm (Nat.ne_of_lt lt_am_ad68_0)))
      obtain ⟨cl87, Ar87, qk87, Sz87, Mn87, Hv87, Gf87⟩ := id F86
      refine OwnW.iaload (pc' := 236) (v := .int (C77.getD g1.toNatClampNeg 0)) d1_235 Ar87 (inb_of Sz87 (own_bd hg1)) (Hv87.at (inb_of Sz87 (own_bd hg1)) (own_gd C77 g1.toNatClampNeg)) rfl ?_
      show GoB13 l Z n0 (Q13 Z o q0 q1 kg ks g0 g1 g2 s0 s1 s2 h0) h79 4 13 236 #[.val (.ref o), .val (.ref q0), .val (.ref q1), .val (.int (2 : Int32)), .val (.ref ad3), .val (.ref ad52), .val (.ref am), .val (.ref ad68_0), .val (.int (1 : Int32))] [(.int (C77.getD g1.toNatClampNeg 0)), (.int g1), (.ref ad68_0), (.ref am)]
      refine OwnW.dupX2 (pc' := 237) d1_236 rfl ?_
      refine OwnW.iconst (pc' := 238) (v := (1 : Int32)) d1_237 rfl rfl ?_
      refine OwnW.iadd (pc' := 239) d1_238 rfl ?_
      obtain ⟨cl88, Ar88, qk88, Sz88, Mn88, Hv88, Gf88⟩ := id F86
      refine OwnW.stI (pc' := 240) d1_239 Ar88 (inb_of Sz88 (own_bd hg1)) ge_ad68_0 rfl ?_
      intro h88 W88
      have sz90 : n0 ≤ h88.size := (by rw [W88.size]; exact sz81)
      obtain ⟨C89, hC89⟩ : ∃ z : List Int32, z = (C77.set g1.toNatClampNeg ((C77.getD g1.toNatClampNeg 0) + (1 : Int32))) := ⟨_, rfl⟩
      have VC89 : Arv Z h88 ad68_0 kc68_0 .int (3 : Int32) (C89.map Value.int) (.int (0 : Int32)) := by rw [hC89, List.map_set]; exact Arv.set Ar88 qk88 Sz88 Mn88 Hv88 Gf88 rfl W88 g1.toNatClampNeg rfl (own_ln (z := (3 : Int32)) lC77 (own_bd hg1))
      have lC89 : C89.length = 3 := by rw [hC89, List.length_set]; exact lC77
      show GoB13 l Z n0 (Q13 Z o q0 q1 kg ks g0 g1 g2 s0 s1 s2 h0) h88 4 13 240 #[.val (.ref o), .val (.ref q0), .val (.ref q1), .val (.int (2 : Int32)), .val (.ref ad3), .val (.ref ad52), .val (.ref am), .val (.ref ad68_0), .val (.int (1 : Int32))] [(.int (C77.getD g1.toNatClampNeg 0)), (.ref am)]
      refine OwnW.iload (pc' := 242) d1_240 rfl rfl ?_
      have F92 := (Y79.other W88 (Nat.ne_of_lt lt_am_ad68_0))
      obtain ⟨cl91, Ar91, Sz91⟩ := id F92
      refine OwnW.stI (pc' := 243) d1_242 Ar91 (inb_of Sz91 (own_mb3_1 hg0 hg1 hg2 hC15 hC18 hC33 hC48 hC53 hC58 hC64 hC74 hC77 hC89 htt hc223 hc223_1)) ge_am rfl ?_
      intro h91 W91
      have sz93 : n0 ≤ h91.size := (by rw [W91.size]; exact sz90)
      have Y91 : Wk Z h91 am tt := Wk.same ⟨cl91, Ar91, Sz91⟩ W91
      show GoB13 l Z n0 (Q13 Z o q0 q1 kg ks g0 g1 g2 s0 s1 s2 h0) h91 4 13 243 #[.val (.ref o), .val (.ref q0), .val (.ref q1), .val (.int (2 : Int32)), .val (.ref ad3), .val (.ref ad52), .val (.ref am), .val (.ref ad68_0), .val (.int (1 : Int32))] []
      refine OwnW.iinc (pc' := 246) (L' := #[.val (.ref o), .val (.ref q0), .val (.ref q1), .val (.int (2 : Int32)), .val (.ref ad3), .val (.ref ad52), .val (.ref am), .val (.ref ad68_0), .val (.int (2 : Int32))]) (d := (1 : Int32)) d1_243 rfl rfl rfl rfl ?_
      refine OwnW.goto (pc' := 212) d1_246 (by decide) (by decide) ?_
      refine OwnW.iload (pc' := 214) d1_212 rfl rfl ?_
      refine OwnW.aloadN (pc' := 215) d1_214 rfl (rfl) rfl ?_
      have F94 := ((F82.other W88 (Nat.ne_of_lt lt_q0_ad68_0)).other W91 (Nat.ne_of_lt lt_q0_am))
      obtain ⟨cl95, Ar95, qk95, Sz95, Mn95, Hv95, Gf95⟩ := id F94
      refine OwnW.alen (pc' := 216) (x := (3 : Int32)) d1_215 Ar95 (len_of Sz95 Mn95) rfl ?_
      refine OwnW.icmpN (pc' := 219) d1_216 (tlt (by decide)).2.1 rfl ?_
      refine OwnW.aloadN (pc' := 220) d1_219 rfl (rfl) rfl ?_
      refine OwnW.iload (pc' := 222) d1_220 rfl rfl ?_
      obtain ⟨cl96, Ar96, qk96, Sz96, Mn96, Hv96, Gf96⟩ := id F94
      refine OwnW.iaload (pc' := 223) (v := (.int g2)) d1_222 Ar96 (inb_of Sz96 ⟨by decide, by decide⟩) (Hv96.at (inb_of Sz96 ⟨by decide, by decide⟩) rfl) rfl ?_
      by_cases hc223_2 : (0 : Int32) < g2
      ·
        refine OwnW.ifcN (pc' := 226) d1_223 ((if0 _ _).trans (tlt hc223_2).2.2.2) rfl ?_
        refine OwnW.aload (pc' := 228) d1_226 rfl (rfl) rfl ?_
        refine OwnW.aload (pc' := 230) d1_228 rfl (rfl) rfl ?_
        refine OwnW.aloadN (pc' := 231) d1_230 rfl (rfl) rfl ?_
        refine OwnW.iload (pc' := 233) d1_231 rfl rfl ?_
        obtain ⟨cl97, Ar97, qk97, Sz97, Mn97, Hv97, Gf97⟩ := id F94
        refine OwnW.iaload (pc' := 234) (v := (.int g2)) d1_233 Ar97 (inb_of Sz97 ⟨by decide, by decide⟩) (Hv97.at (inb_of Sz97 ⟨by decide, by decide⟩) rfl) rfl ?_
        refine OwnW.dup2 (pc' := 235) d1_234 rfl rfl rfl ?_
        have F98 := (VC89.other W91 (Ne.symm (Nat.ne_of_lt lt_am_ad68_0)))
        obtain ⟨cl99, Ar99, qk99, Sz99, Mn99, Hv99, Gf99⟩ := id F98
        refine OwnW.iaload (pc' := 236) (v := .int (C89.getD g2.toNatClampNeg 0)) d1_235 Ar99 (inb_of Sz99 (own_bd hg2)) (Hv99.at (inb_of Sz99 (own_bd hg2)) (own_gd C89 g2.toNatClampNeg)) rfl ?_
        show GoB13 l Z n0 (Q13 Z o q0 q1 kg ks g0 g1 g2 s0 s1 s2 h0) h91 4 13 236 #[.val (.ref o), .val (.ref q0), .val (.ref q1), .val (.int (2 : Int32)), .val (.ref ad3), .val (.ref ad52), .val (.ref am), .val (.ref ad68_0), .val (.int (2 : Int32))] [(.int (C89.getD g2.toNatClampNeg 0)), (.int g2), (.ref ad68_0), (.ref am)]
        refine OwnW.dupX2 (pc' := 237) d1_236 rfl ?_
        refine OwnW.iconst (pc' := 238) (v := (1 : Int32)) d1_237 rfl rfl ?_
        refine OwnW.iadd (pc' := 239) d1_238 rfl ?_
        obtain ⟨cl100, Ar100, qk100, Sz100, Mn100, Hv100, Gf100⟩ := id F98
        refine OwnW.stI (pc' := 240) d1_239 Ar100 (inb_of Sz100 (own_bd hg2)) ge_ad68_0 rfl ?_
        intro h100 W100
        have sz102 : n0 ≤ h100.size := (by rw [W100.size]; exact sz93)
        obtain ⟨C101, hC101⟩ : ∃ z : List Int32, z = (C89.set g2.toNatClampNeg ((C89.getD g2.toNatClampNeg 0) + (1 : Int32))) := ⟨_, rfl⟩
        have VC101 : Arv Z h100 ad68_0 kc68_0 .int (3 : Int32) (C101.map Value.int) (.int (0 : Int32)) := by rw [hC101, List.map_set]; exact Arv.set Ar100 qk100 Sz100 Mn100 Hv100 Gf100 rfl W100 g2.toNatClampNeg rfl (own_ln (z := (3 : Int32)) lC89 (own_bd hg2))
        have lC101 : C101.length = 3 := by rw [hC101, List.length_set]; exact lC89
        show GoB13 l Z n0 (Q13 Z o q0 q1 kg ks g0 g1 g2 s0 s1 s2 h0) h100 4 13 240 #[.val (.ref o), .val (.ref q0), .val (.ref q1), .val (.int (2 : Int32)), .val (.ref ad3), .val (.ref ad52), .val (.ref am), .val (.ref ad68_0), .val (.int (2 : Int32))] [(.int (C89.getD g2.toNatClampNeg 0)), (.ref am)]
        refine OwnW.iload (pc' := 242) d1_240 rfl rfl ?_
        have F104 := (Y91.other W100 (Nat.ne_of_lt lt_am_ad68_0))
        obtain ⟨cl103, Ar103, Sz103⟩ := id F104
        refine OwnW.stI (pc' := 243) d1_242 Ar103 (inb_of Sz103 (own_mb3_2 hg0 hg1 hg2 hC15 hC18 hC33 hC48 hC53 hC58 hC64 hC74 hC77 hC89 hC101 htt hc223 hc223_1 hc223_2)) ge_am rfl ?_
        intro h103 W103
        have sz105 : n0 ≤ h103.size := (by rw [W103.size]; exact sz102)
        have Y103 : Wk Z h103 am tt := Wk.same ⟨cl103, Ar103, Sz103⟩ W103
        show GoB13 l Z n0 (Q13 Z o q0 q1 kg ks g0 g1 g2 s0 s1 s2 h0) h103 4 13 243 #[.val (.ref o), .val (.ref q0), .val (.ref q1), .val (.int (2 : Int32)), .val (.ref ad3), .val (.ref ad52), .val (.ref am), .val (.ref ad68_0), .val (.int (2 : Int32))] []
        refine OwnW.iinc (pc' := 246) (L' := #[.val (.ref o), .val (.ref q0), .val (.ref q1), .val (.int (2 : Int32)), .val (.ref ad3), .val (.ref ad52), .val (.ref am), .val (.ref ad68_0), .val (.int (3 : Int32))]) (d := (1 : Int32)) d1_243 rfl rfl rfl rfl ?_
        refine OwnW.goto (pc' := 212) d1_246 (by decide) (by decide) ?_
        refine OwnW.iload (pc' := 214) d1_212 rfl rfl ?_
        refine OwnW.aloadN (pc' := 215) d1_214 rfl (rfl) rfl ?_
        have F106 := ((F94.other W100 (Nat.ne_of_lt lt_q0_ad68_0)).other W103 (Nat.ne_of_lt lt_q0_am))
        obtain ⟨cl107, Ar107, qk107, Sz107, Mn107, Hv107, Gf107⟩ := id F106
        refine OwnW.alen (pc' := 216) (x := (3 : Int32)) d1_215 Ar107 (len_of Sz107 Mn107) rfl ?_
        refine OwnW.icmpY (pc' := 249) d1_216 (flt (by decide)).2.1 (by decide) (by decide) ?_
        refine OwnW.aloadN (pc' := 250) d1_249 rfl (rfl) rfl ?_
        refine OwnW.aloadN (pc' := 251) d1_250 rfl (rfl) rfl ?_
        have F109 := (((((((((((((((F_groups.ext E3).other W17 (Or.inl (Nat.ne_of_lt lt_o_ad3))).other W32 (Or.inl (Nat.ne_of_lt lt_o_ad3))).other W47 (Or.inl (Nat.ne_of_lt lt_o_ad3))).ext E52).other W57 (Or.inl (Nat.ne_of_lt lt_o_ad52))).other W63 (Or.inl (Nat.ne_of_lt lt_o_ad52))).ext Em).keep K68 nin0).other W76 (Or.inl (Nat.ne_of_lt lt_o_ad68_0))).other W79 (Or.inl (Nat.ne_of_lt lt_o_am))).other W88 (Or.inl (Nat.ne_of_lt lt_o_ad68_0))).other W91 (Or.inl (Nat.ne_of_lt lt_o_am))).other W100 (Or.inl (Nat.ne_of_lt lt_o_ad68_0))).other W103 (Or.inl (Nat.ne_of_lt lt_o_am)))
        have F110 := (((((((((((((((E_o.ext E3).wr W17).wr W32).wr W47).ext E52).wr W57).wr W63).ext Em).keep K68).wr W76).wr W79).wr W88).wr W91).wr W100).wr W103)
        refine OwnW.putF (a0 := a0) (pc' := 254) d1_251 (host := "") (Or.inl (hw _ (List.mem_of_getElem? (i := 23) rfl))) Via.refl F109 F110 (Or.inr ⟨(hw _ (List.mem_of_getElem? (i := 24) rfl)), rfl, rfl⟩) (hw _ (List.mem_of_getElem? (i := 3) rfl)) (ty := (.array .int)) (by decide) rfl rfl g_o rfl ?_
        intro h108 W108
        have sz111 : n0 ≤ h108.size := (by rw [W108.size]; exact sz105)
        have F112 := F109.same W108
        refine OwnW.aloadN (pc' := 255) d1_254 rfl (rfl) rfl ?_
        refine OwnW.aloadN (pc' := 256) d1_255 rfl (rfl) rfl ?_
        have F114 := ((((((((((((((((F_shares.ext E3).other W17 (Or.inl (Nat.ne_of_lt lt_o_ad3))).other W32 (Or.inl (Nat.ne_of_lt lt_o_ad3))).other W47 (Or.inl (Nat.ne_of_lt lt_o_ad3))).ext E52).other W57 (Or.inl (Nat.ne_of_lt lt_o_ad52))).other W63 (Or.inl (Nat.ne_of_lt lt_o_ad52))).ext Em).keep K68 nin0).other W76 (Or.inl (Nat.ne_of_lt lt_o_ad68_0))).other W79 (Or.inl (Nat.ne_of_lt lt_o_am))).other W88 (Or.inl (Nat.ne_of_lt lt_o_ad68_0))).other W91 (Or.inl (Nat.ne_of_lt lt_o_am))).other W100 (Or.inl (Nat.ne_of_lt lt_o_ad68_0))).other W103 (Or.inl (Nat.ne_of_lt lt_o_am))).other W108 (Or.inr (slot_ne (a0 := a0) (C := "com/example/sieve_for_links/sieveforlinks/VirtualLinks") (Or.inr (hw _ (List.mem_of_getElem? (i := 26) rfl))) (Or.inr (hw _ (List.mem_of_getElem? (i := 24) rfl))) (by decide) (t := (.array .double)) (t' := (.array .int)) (by decide) (by decide))))
        have F115 := (F110.wr W108)
        refine OwnW.putF (a0 := a0) (pc' := 259) d1_256 (host := "") (Or.inl (hw _ (List.mem_of_getElem? (i := 25) rfl))) Via.refl F114 F115 (Or.inr ⟨(hw _ (List.mem_of_getElem? (i := 26) rfl)), rfl, rfl⟩) (hw _ (List.mem_of_getElem? (i := 3) rfl)) (ty := (.array .double)) (by decide) rfl rfl g_o rfl ?_
        intro h113 W113
        have sz116 : n0 ≤ h113.size := (by rw [W113.size]; exact sz111)
        have F117 := F114.same W113
        refine OwnW.aloadN (pc' := 260) d1_259 rfl (rfl) rfl ?_
        refine OwnW.aload (pc' := 262) d1_260 rfl (rfl) rfl ?_
        have F119 := (((((((((((((((((F_members.ext E3).other W17 (Or.inl (Nat.ne_of_lt lt_o_ad3))).other W32 (Or.inl (Nat.ne_of_lt lt_o_ad3))).other W47 (Or.inl (Nat.ne_of_lt lt_o_ad3))).ext E52).other W57 (Or.inl (Nat.ne_of_lt lt_o_ad52))).other W63 (Or.inl (Nat.ne_of_lt lt_o_ad52))).ext Em).keep K68 nin0).other W76 (Or.inl (Nat.ne_of_lt lt_o_ad68_0))).other W79 (Or.inl (Nat.ne_of_lt lt_o_am))).other W88 (Or.inl (Nat.ne_of_lt lt_o_ad68_0))).other W91 (Or.inl (Nat.ne_of_lt lt_o_am))).other W100 (Or.inl (Nat.ne_of_lt lt_o_ad68_0))).other W103 (Or.inl (Nat.ne_of_lt lt_o_am))).other W108 (Or.inr (slot_ne (a0 := a0) (C := "com/example/sieve_for_links/sieveforlinks/VirtualLinks") (Or.inr (hw _ (List.mem_of_getElem? (i := 28) rfl))) (Or.inr (hw _ (List.mem_of_getElem? (i := 24) rfl))) (by decide) (t := (.array .int)) (t' := (.array .int)) (by decide) (by decide)))).other W113 (Or.inr (slot_ne (a0 := a0) (C := "com/example/sieve_for_links/sieveforlinks/VirtualLinks") (Or.inr (hw _ (List.mem_of_getElem? (i := 28) rfl))) (Or.inr (hw _ (List.mem_of_getElem? (i := 26) rfl))) (by decide) (t := (.array .int)) (t' := (.array .double)) (by decide) (by decide))))
        have F120 := (F115.wr W113)
        refine OwnW.putF (a0 := a0) (pc' := 265) d1_262 (host := "") (Or.inl (hw _ (List.mem_of_getElem? (i := 27) rfl))) Via.refl F119 F120 (Or.inr ⟨(hw _ (List.mem_of_getElem? (i := 28) rfl)), rfl, rfl⟩) (hw _ (List.mem_of_getElem? (i := 3) rfl)) (ty := (.array .int)) (by decide) rfl rfl g_o rfl ?_
        intro h118 W118
        have sz121 : n0 ≤ h118.size := (by rw [W118.size]; exact sz116)
        have F122 := F119.same W118
        refine OwnW.aloadN (pc' := 266) d1_265 rfl (rfl) rfl ?_
        refine OwnW.aload (pc' := 268) d1_266 rfl (rfl) rfl ?_
        have F124 := ((((((((((((((((((F_memberStarts.ext E3).other W17 (Or.inl (Nat.ne_of_lt lt_o_ad3))).other W32 (Or.inl (Nat.ne_of_lt lt_o_ad3))).other W47 (Or.inl (Nat.ne_of_lt lt_o_ad3))).ext E52).other W57 (Or.inl (Nat.ne_of_lt lt_o_ad52))).other W63 (Or.inl (Nat.ne_of_lt lt_o_ad52))).ext Em).keep K68 nin0).other W76 (Or.inl (Nat.ne_of_lt lt_o_ad68_0))).other W79 (Or.inl (Nat.ne_of_lt lt_o_am))).other W88 (Or.inl (Nat.ne_of_lt lt_o_ad68_0))).other W91 (Or.inl (Nat.ne_of_lt lt_o_am))).other W100 (Or.inl (Nat.ne_of_lt lt_o_ad68_0))).other W103 (Or.inl (Nat.ne_of_lt lt_o_am))).other W108 (Or.inr (slot_ne (a0 := a0) (C := "com/example/sieve_for_links/sieveforlinks/VirtualLinks") (Or.inr (hw _ (List.mem_of_getElem? (i := 30) rfl))) (Or.inr (hw _ (List.mem_of_getElem? (i := 24) rfl))) (by decide) (t := (.array .int)) (t' := (.array .int)) (by decide) (by decide)))).other W113 (Or.inr (slot_ne (a0 := a0) (C := "com/example/sieve_for_links/sieveforlinks/VirtualLinks") (Or.inr (hw _ (List.mem_of_getElem? (i := 30) rfl))) (Or.inr (hw _ (List.mem_of_getElem? (i := 26) rfl))) (by decide) (t := (.array .int)) (t' := (.array .double)) (by decide) (by decide)))).other W118 (Or.inr (slot_ne (a0 := a0) (C := "com/example/sieve_for_links/sieveforlinks/VirtualLinks") (Or.inr (hw _ (List.mem_of_getElem? (i := 30) rfl))) (Or.inr (hw _ (List.mem_of_getElem? (i := 28) rfl))) (by decide) (t := (.array .int)) (t' := (.array .int)) (by decide) (by decide))))
        have F125 := (F120.wr W118)
        refine OwnW.putF (a0 := a0) (pc' := 271) d1_268 (host := "") (Or.inl (hw _ (List.mem_of_getElem? (i := 29) rfl))) Via.refl F124 F125 (Or.inr ⟨(hw _ (List.mem_of_getElem? (i := 30) rfl)), rfl, rfl⟩) (hw _ (List.mem_of_getElem? (i := 3) rfl)) (ty := (.array .int)) (by decide) rfl rfl g_o rfl ?_
        intro h123 W123
        have sz126 : n0 ≤ h123.size := (by rw [W123.size]; exact sz121)
        have F127 := F124.same W123
        exact OwnW.ret0 d1_271 rfl (by decide) (by decide) (⟨rfl, ((((((((((((((((((((Keep.refl h0 [o]).ext E3).wr W17 (Or.inr (Nat.le_trans (Nat.le_refl _) (Nat.le_of_eq g3.symm)))).wr W32 (Or.inr (Nat.le_trans (Nat.le_refl _) (Nat.le_of_eq g3.symm)))).wr W47 (Or.inr (Nat.le_trans (Nat.le_refl _) (Nat.le_of_eq g3.symm)))).ext E52).wr W57 (Or.inr (Nat.le_trans (Nat.le_trans (Nat.le_trans (Nat.le_trans (Nat.le_trans (Nat.le_refl _) E3.1) (Nat.le_of_eq W17.size.symm)) (Nat.le_of_eq W32.size.symm)) (Nat.le_of_eq W47.size.symm)) (Nat.le_of_eq g52.symm)))).wr W63 (Or.inr (Nat.le_trans (Nat.le_trans (Nat.le_trans (Nat.le_trans (Nat.le_trans (Nat.le_refl _) E3.1) (Nat.le_of_eq W17.size.symm)) (Nat.le_of_eq W32.size.symm)) (Nat.le_of_eq W47.size.symm)) (Nat.le_of_eq g52.symm)))).ext Em).trans K68 all0).wr W76 (Or.inr (Nat.le_trans (Nat.le_trans (Nat.le_trans (Nat.le_trans (Nat.le_trans (Nat.le_trans (Nat.le_trans (Nat.le_trans (Nat.le_trans (Nat.le_refl _) E3.1) (Nat.le_of_eq W17.size.symm)) (Nat.le_of_eq W32.size.symm)) (Nat.le_of_eq W47.size.symm)) E52.1) (Nat.le_of_eq W57.size.symm)) (Nat.le_of_eq W63.size.symm)) Em.1) gl68_0))).wr W79 (Or.inr (Nat.le_trans (Nat.le_trans (Nat.le_trans (Nat.le_trans (Nat.le_trans (Nat.le_trans (Nat.le_trans (Nat.le_trans (Nat.le_refl _) E3.1) (Nat.le_of_eq W17.size.symm)) (Nat.le_of_eq W32.size.symm)) (Nat.le_of_eq W47.size.symm)) E52.1) (Nat.le_of_eq W57.size.symm)) (Nat.le_of_eq W63.size.symm)) (Nat.le_of_eq gm.symm)))).wr W88 (Or.inr (Nat.le_trans (Nat.le_trans (Nat.le_trans (Nat.le_trans (Nat.le_trans (Nat.le_trans (Nat.le_trans (Nat.le_trans (Nat.le_trans (Nat.le_refl _) E3.1) (Nat.le_of_eq W17.size.symm)) (Nat.le_of_eq W32.size.symm)) (Nat.le_of_eq W47.size.symm)) E52.1) (Nat.le_of_eq W57.size.symm)) (Nat.le_of_eq W63.size.symm)) Em.1) gl68_0))).wr W91 (Or.inr (Nat.le_trans (Nat.le_trans (Nat.le_trans (Nat.le_trans (Nat.le_trans (Nat.le_trans (Nat.le_trans (Nat.le_trans (Nat.le_refl _) E3.1) (Nat.le_of_eq W17.size.symm)) (Nat.le_of_eq W32.size.symm)) (Nat.le_of_eq W47.size.symm)) E52.1) (Nat.le_of_eq W57.size.symm)) (Nat.le_of_eq W63.size.symm)) (Nat.le_of_eq gm.symm)))).wr W100 (Or.inr (Nat.le_trans (Nat.le_trans (Nat.le_trans (Nat.le_trans (Nat.le_trans (Nat.le_trans (Nat.le_trans (Nat.le_trans (Nat.le_trans (Nat.le_refl _) E3.1) (Nat.le_of_eq W17.size.symm)) (Nat.le_of_eq W32.size.symm)) (Nat.le_of_eq W47.size.symm)) E52.1) (Nat.le_of_eq W57.size.symm)) (Nat.le_of_eq W63.size.symm)) Em.1) gl68_0))).wr W103 (Or.inr (Nat.le_trans (Nat.le_trans (Nat.le_trans (Nat.le_trans (Nat.le_trans (Nat.le_trans (Nat.le_trans (Nat.le_trans (Nat.le_refl _) E3.1) (Nat.le_of_eq W17.size.symm)) (Nat.le_of_eq W32.size.symm)) (Nat.le_of_eq W47.size.symm)) E52.1) (Nat.le_of_eq W57.size.symm)) (Nat.le_of_eq W63.size.symm)) (Nat.le_of_eq gm.symm)))).wr W108 (Or.inl (List.mem_of_getElem? (i := 0) rfl))).wr W113 (Or.inl (List.mem_of_getElem? (i := 0) rfl))).wr W118 (Or.inl (List.mem_of_getElem? (i := 0) rfl))).wr W123 (Or.inl (List.mem_of_getElem? (i := 0) rfl))), (F125.wr W123), (((F112.other W113 (Or.inr (slot_ne (a0 := a0) (C := "com/example/sieve_for_links/sieveforlinks/VirtualLinks") (Or.inr (hw _ (List.mem_of_getElem? (i := 24) rfl))) (Or.inr (hw _ (List.mem_of_getElem? (i := 26) rfl))) (by decide) (t := (.array .int)) (t' := (.array .double)) (by decide) (by decide)))).other W118 (Or.inr (slot_ne (a0 := a0) (C := "com/example/sieve_for_links/sieveforlinks/VirtualLinks") (Or.inr (hw _ (List.mem_of_getElem? (i := 24) rfl))) (Or.inr (hw _ (List.mem_of_getElem? (i := 28) rfl))) (by decide) (t := (.array .int)) (t' := (.array .int)) (by decide) (by decide)))).other W123 (Or.inr (slot_ne (a0 := a0) (C := "com/example/sieve_for_links/sieveforlinks/VirtualLinks") (Or.inr (hw _ (List.mem_of_getElem? (i := 24) rfl))) (Or.inr (hw _ (List.mem_of_getElem? (i := 30) rfl))) (by decide) (t := (.array .int)) (t' := (.array .int)) (by decide) (by decide))))⟩)
      ·
        refine OwnW.ifcY (pc' := 243) d1_223 ((if0 _ _).trans (flt hc223_2).2.2.2) (by decide) (by decide) ?_
        refine OwnW.iinc (pc' := 246) (L' := #[.val (.ref o), .val (.ref q0), .val (.ref q1), .val (.int (2 : Int32)), .val (.ref ad3), .val (.ref ad52), .val (.ref am), .val (.ref ad68_0), .val (.int (3 : Int32))]) (d := (1 : Int32)) d1_243 rfl rfl rfl rfl ?_
        refine OwnW.goto (pc' := 212) d1_246 (by decide) (by decide) ?_
        refine OwnW.iload (pc' := 214) d1_212 rfl rfl ?_
        refine OwnW.aloadN (pc' := 215) d1_214 rfl (rfl) rfl ?_
        obtain ⟨cl128, Ar128, qk128, Sz128, Mn128, Hv128, Gf128⟩ := id F94
        refine OwnW.alen (pc' := 216) (x := (3 : Int32)) d1_215 Ar128 (len_of Sz128 Mn128) rfl ?_
        refine OwnW.icmpY (pc' := 249) d1_216 (flt (by decide)).2.1 (by decide) (by decide) ?_
        refine OwnW.aloadN (pc' := 250) d1_249 rfl (rfl) rfl ?_
        refine OwnW.aloadN (pc' := 251) d1_250 rfl (rfl) rfl ?_
        have F130 := (((((((((((((F_groups.ext E3).other W17 (Or.inl (Nat.ne_of_lt lt_o_ad3))).other W32 (Or.inl (Nat.ne_of_lt lt_o_ad3))).other W47 (Or.inl (Nat.ne_of_lt lt_o_ad3))).ext E52).other W57 (Or.inl (Nat.ne_of_lt lt_o_ad52))).other W63 (Or.inl (Nat.ne_of_lt lt_o_ad52))).ext Em).keep K68 nin0).other W76 (Or.inl (Nat.ne_of_lt lt_o_ad68_0))).other W79 (Or.inl (Nat.ne_of_lt lt_o_am))).other W88 (Or.inl (Nat.ne_of_lt lt_o_ad68_0))).other W91 (Or.inl (Nat.ne_of_lt lt_o_am)))
        have F131 := (((((((((((((E_o.ext E3).wr W17).wr W32).wr W47).ext E52).wr W57).wr W63).ext Em).keep K68).wr W76).wr W79).wr W88).wr W91)
        refine OwnW.putF (a0 := a0) (pc' := 254) d1_251 (host := "") (Or.inl (hw _ (List.mem_of_getElem? (i := 23) rfl))) Via.refl F130 F131 (Or.inr ⟨(hw _ (List.mem_of_getElem? (i := 24) rfl)), rfl, rfl⟩) (hw _ (List.mem_of_getElem? (i := 3) rfl)) (ty := (.array .int)) (by decide) rfl rfl g_o rfl ?_
        intro h129 W129
        have sz132 : n0 ≤ h129.size := (by rw [W129.size]; exact sz93)
        have F133 := F130.same W129
        refine OwnW.aloadN (pc' := 255) d1_254 rfl (rfl) rfl ?_
        refine OwnW.aloadN (pc' := 256) d1_255 rfl (rfl) rfl ?_
        have F135 := ((((((((((((((F_shares.ext E3).other W17 (Or.inl (Nat.ne_of_lt lt_o_ad3))).other W32 (Or.inl (Nat.ne_of_lt lt_o_ad3))).other W47 (Or.inl (Nat.ne_of_lt lt_o_ad3))).ext E52).other W57 (Or.inl (Nat.ne_of_lt lt_o_ad52))).other W63 (Or.inl (Nat.ne_of_lt lt_o_ad52))).ext Em).keep K68 nin0).other W76 (Or.inl (Nat.ne_of_lt lt_o_ad68_0))).other W79 (Or.inl (Nat.ne_of_lt lt_o_am))).other W88 (Or.inl (Nat.ne_of_lt lt_o_ad68_0))).other W91 (Or.inl (Nat.ne_of_lt lt_o_am))).other W129 (Or.inr (slot_ne (a0 := a0) (C := "com/example/sieve_for_links/sieveforlinks/VirtualLinks") (Or.inr (hw _ (List.mem_of_getElem? (i := 26) rfl))) (Or.inr (hw _ (List.mem_of_getElem? (i := 24) rfl))) (by decide) (t := (.array .double)) (t' := (.array .int)) (by decide) (by decide))))
        have F136 := (F131.wr W129)
        refine OwnW.putF (a0 := a0) (pc' := 259) d1_256 (host := "") (Or.inl (hw _ (List.mem_of_getElem? (i := 25) rfl))) Via.refl F135 F136 (Or.inr ⟨(hw _ (List.mem_of_getElem? (i := 26) rfl)), rfl, rfl⟩) (hw _ (List.mem_of_getElem? (i := 3) rfl)) (ty := (.array .double)) (by decide) rfl rfl g_o rfl ?_
        intro h134 W134
        have sz137 : n0 ≤ h134.size := (by rw [W134.size]; exact sz132)
        have F138 := F135.same W134
        refine OwnW.aloadN (pc' := 260) d1_259 rfl (rfl) rfl ?_
        refine OwnW.aload (pc' := 262) d1_260 rfl (rfl) rfl ?_
        have F140 := (((((((((((((((F_members.ext E3).other W17 (Or.inl (Nat.ne_of_lt lt_o_ad3))).other W32 (Or.inl (Nat.ne_of_lt lt_o_ad3))).other W47 (Or.inl (Nat.ne_of_lt lt_o_ad3))).ext E52).other W57 (Or.inl (Nat.ne_of_lt lt_o_ad52))).other W63 (Or.inl (Nat.ne_of_lt lt_o_ad52))).ext Em).keep K68 nin0).other W76 (Or.inl (Nat.ne_of_lt lt_o_ad68_0))).other W79 (Or.inl (Nat.ne_of_lt lt_o_am))).other W88 (Or.inl (Nat.ne_of_lt lt_o_ad68_0))).other W91 (Or.inl (Nat.ne_of_lt lt_o_am))).other W129 (Or.inr (slot_ne (a0 := a0) (C := "com/example/sieve_for_links/sieveforlinks/VirtualLinks") (Or.inr (hw _ (List.mem_of_getElem? (i := 28) rfl))) (Or.inr (hw _ (List.mem_of_getElem? (i := 24) rfl))) (by decide) (t := (.array .int)) (t' := (.array .int)) (by decide) (by decide)))).other W134 (Or.inr (slot_ne (a0 := a0) (C := "com/example/sieve_for_links/sieveforlinks/VirtualLinks") (Or.inr (hw _ (List.mem_of_getElem? (i := 28) rfl))) (Or.inr (hw _ (List.mem_of_getElem? (i := 26) rfl))) (by decide) (t := (.array .int)) (t' := (.array .double)) (by decide) (by decide))))
        have F141 := (F136.wr W134)
        refine OwnW.putF (a0 := a0) (pc' := 265) d1_262 (host := "") (Or.inl (hw _ (List.mem_of_getElem? (i := 27) rfl))) Via.refl F140 F141 (Or.inr ⟨(hw _ (List.mem_of_getElem? (i := 28) rfl)), rfl, rfl⟩) (hw _ (List.mem_of_getElem? (i := 3) rfl)) (ty := (.array .int)) (by decide) rfl rfl g_o rfl ?_
        intro h139 W139
        have sz142 : n0 ≤ h139.size := (by rw [W139.size]; exact sz137)
        have F143 := F140.same W139
        refine OwnW.aloadN (pc' := 266) d1_265 rfl (rfl) rfl ?_
        refine OwnW.aload (pc' := 268) d1_266 rfl (rfl) rfl ?_
        have F145 := ((((((((((((((((F_memberStarts.ext E3).other W17 (Or.inl (Nat.ne_of_lt lt_o_ad3))).other W32 (Or.inl (Nat.ne_of_lt lt_o_ad3))).other W47 (Or.inl (Nat.ne_of_lt lt_o_ad3))).ext E52).other W57 (Or.inl (Nat.ne_of_lt lt_o_ad52))).other W63 (Or.inl (Nat.ne_of_lt lt_o_ad52))).ext Em).keep K68 nin0).other W76 (Or.inl (Nat.ne_of_lt lt_o_ad68_0))).other W79 (Or.inl (Nat.ne_of_lt lt_o_am))).other W88 (Or.inl (Nat.ne_of_lt lt_o_ad68_0))).other W91 (Or.inl (Nat.ne_of_lt lt_o_am))).other W129 (Or.inr (slot_ne (a0 := a0) (C := "com/example/sieve_for_links/sieveforlinks/VirtualLinks") (Or.inr (hw _ (List.mem_of_getElem? (i := 30) rfl))) (Or.inr (hw _ (List.mem_of_getElem? (i := 24) rfl))) (by decide) (t := (.array .int)) (t' := (.array .int)) (by decide) (by decide)))).other W134 (Or.inr (slot_ne (a0 := a0) (C := "com/example/sieve_for_links/sieveforlinks/VirtualLinks") (Or.inr (hw _ (List.mem_of_getElem? (i := 30) rfl))) (Or.inr (hw _ (List.mem_of_getElem? (i := 26) rfl))) (by decide) (t := (.array .int)) (t' := (.array .double)) (by decide) (by decide)))).other W139 (Or.inr (slot_ne (a0 := a0) (C := "com/example/sieve_for_links/sieveforlinks/VirtualLinks") (Or.inr (hw _ (List.mem_of_getElem? (i := 30) rfl))) (Or.inr (hw _ (List.mem_of_getElem? (i := 28) rfl))) (by decide) (t := (.array .int)) (t' := (.array .int)) (by decide) (by decide))))
        have F146 := (F141.wr W139)
        refine OwnW.putF (a0 := a0) (pc' := 271) d1_268 (host := "") (Or.inl (hw _ (List.mem_of_getElem? (i := 29) rfl))) Via.refl F145 F146 (Or.inr ⟨(hw _ (List.mem_of_getElem? (i := 30) rfl)), rfl, rfl⟩) (hw _ (List.mem_of_getElem? (i := 3) rfl)) (ty := (.array .int)) (by decide) rfl rfl g_o rfl ?_
        intro h144 W144
        have sz147 : n0 ≤ h144.size := (by rw [W144.size]; exact sz142)
        have F148 := F145.same W144
        exact OwnW.ret0 d1_271 rfl (by decide) (by decide) (⟨rfl, ((((((((((((((((((Keep.refl h0 [o]).ext E3).wr W17 (Or.inr (Nat.le_trans (Nat.le_refl _) (Nat.le_of_eq g3.symm)))).wr W32 (Or.inr (Nat.le_trans (Nat.le_refl _) (Nat.le_of_eq g3.symm)))).wr W47 (Or.inr (Nat.le_trans (Nat.le_refl _) (Nat.le_of_eq g3.symm)))).ext E52).wr W57 (Or.inr (Nat.le_trans (Nat.le_trans (Nat.le_trans (Nat.le_trans (Nat.le_trans (Nat.le_refl _) E3.1) (Nat.le_of_eq W17.size.symm)) (Nat.le_of_eq W32.size.symm)) (Nat.le_of_eq W47.size.symm)) (Nat.le_of_eq g52.symm)))).wr W63 (Or.inr (Nat.le_trans (Nat.le_trans (Nat.le_trans (Nat.le_trans (Nat.le_trans (Nat.le_refl _) E3.1) (Nat.le_of_eq W17.size.symm)) (Nat.le_of_eq W32.size.symm)) (Nat.le_of_eq W47.size.symm)) (Nat.le_of_eq g52.symm)))).ext Em).trans K68 all0).wr W76 (Or.inr (Nat.le_trans (Nat.le_trans (Nat.le_trans (Nat.le_trans (Nat.le_trans (Nat.le_trans (Nat.le_trans (Nat.le_trans (Nat.le_trans (Nat.le_refl _) E3.1) (Nat.le_of_eq W17.size.symm)) (Nat.le_of_eq W32.size.symm)) (Nat.le_of_eq W47.size.symm)) E52.1) (Nat.le_of_eq W57.size.symm)) (Nat.le_of_eq W63.size.symm)) Em.1) gl68_0))).wr W79 (Or.inr (Nat.le_trans (Nat.le_trans (Nat.le_trans (Nat.le_trans (Nat.le_trans (Nat.le_trans (Nat.le_trans (Nat.le_trans (Nat.le_refl _) E3.1) (Nat.le_of_eq W17.size.symm)) (Nat.le_of_eq W32.size.symm)) (Nat.le_of_eq W47.size.symm)) E52.1) (Nat.le_of_eq W57.size.symm)) (Nat.le_of_eq W63.size.symm)) (Nat.le_of_eq gm.symm)))).wr W88 (Or.inr (Nat.le_trans (Nat.le_trans (Nat.le_trans (Nat.le_trans (Nat.le_trans (Nat.le_trans (Nat.le_trans (Nat.le_trans (Nat.le_trans (Nat.le_refl _) E3.1) (Nat.le_of_eq W17.size.symm)) (Nat.le_of_eq W32.size.symm)) (Nat.le_of_eq W47.size.symm)) E52.1) (Nat.le_of_eq W57.size.symm)) (Nat.le_of_eq W63.size.symm)) Em.1) gl68_0))).wr W91 (Or.inr (Nat.le_trans (Nat.le_trans (Nat.le_trans (Nat.le_trans (Nat.le_trans (Nat.le_trans (Nat.le_trans (Nat.le_trans (Nat.le_refl _) E3.1) (Nat.le_of_eq W17.size.symm)) (Nat.le_of_eq W32.size.symm)) (Nat.le_of_eq W47.size.symm)) E52.1) (Nat.le_of_eq W57.size.symm)) (Nat.le_of_eq W63.size.symm)) (Nat.le_of_eq gm.symm)))).wr W129 (Or.inl (List.mem_of_getElem? (i := 0) rfl))).wr W134 (Or.inl (List.mem_of_getElem? (i := 0) rfl))).wr W139 (Or.inl (List.mem_of_getElem? (i := 0) rfl))).wr W144 (Or.inl (List.mem_of_getElem? (i := 0) rfl))), (F146.wr W144), (((F133.other W134 (Or.inr (slot_ne (a0 := a0) (C := "com/example/sieve_for_links/sieveforlinks/VirtualLinks") (Or.inr (hw _ (List.mem_of_getElem? (i := 24) rfl))) (Or.inr (hw _ (List.mem_of_getElem? (i := 26) rfl))) (by decide) (t := (.array .int)) (t' := (.array .double)) (by decide) (by decide)))).other W139 (Or.inr (slot_ne (a0 := a0) (C := "com/example/sieve_for_links/sieveforlinks/VirtualLinks") (Or.inr (hw _ (List.mem_of_getElem? (i := 24) rfl))) (Or.inr (hw _ (List.mem_of_getElem? (i := 28) rfl))) (by decide) (t := (.array .int)) (t' := (.array .int)) (by decide) (by decide)))).other W144 (Or.inr (slot_ne (a0 := a0) (C := "com/example/sieve_for_links/sieveforlinks/VirtualLinks") (Or.inr (hw _ (List.mem_of_getElem? (i := 24) rfl))) (Or.inr (hw _ (List.mem_of_getElem? (i := 30) rfl))) (by decide) (t := (.array .int)) (t' := (.array .int)) (by decide) (by decide))))⟩)
    ·
      refine OwnW.ifcY (pc' := 243) d1_223 ((if0 _ _).trans (flt hc223_1).2.2.2) (by decide) (by decide) ?_
      refine OwnW.iinc (pc' := 246) (L' := #[.val (.ref o), .val (.ref q0), .val (.ref q1), .val (.int (2 : Int32)), .val (.ref ad3), .val (.ref ad52), .val (.ref am), .val (.ref ad68_0), .val (.int (2 : Int32))]) (d := (1 : Int32)) d1_243 rfl rfl rfl rfl ?_
      refine OwnW.goto (pc' := 212) d1_246 (by decide) (by decide) ?_
      refine OwnW.iload (pc' := 214) d1_212 rfl rfl ?_
      refine OwnW.aloadN (pc' := 215) d1_214 rfl (rfl) rfl ?_
      obtain ⟨cl149, Ar149, qk149, Sz149, Mn149, Hv149, Gf149⟩ := id F82
      refine OwnW.alen (pc' := 216) (x := (3 : Int32)) d1_215 Ar149 (len_of Sz149 Mn149) rfl ?_
      refine OwnW.icmpN (pc' := 219) d1_216 (tlt (by decide)).2.1 rfl ?_
      refine OwnW.aloadN (pc' := 220) d1_219 rfl (rfl) rfl ?_
      refine OwnW.iload (pc' := 222) d1_220 rfl rfl ?_
      obtain ⟨cl150, Ar150, qk150, Sz150, Mn150, Hv150, Gf150⟩ := id F82
      refine OwnW.iaload (pc' := 223) (v := (.int g2)) d1_222 Ar150 (inb_of Sz150 ⟨by decide, by decide⟩) (Hv150.at (inb_of Sz150 ⟨by decide, by decide⟩) rfl) rfl ?_
      by_cases hc223_2 : (0 : Int32) < g2
      ·
        refine OwnW.ifcN (pc' := 226) d1_223 ((if0 _ _).trans (tlt hc223_2).2.2.2) rfl ?_
        refine OwnW.aload (pc' := 228) d1_226 rfl (rfl) rfl ?_
        refine OwnW.aload (pc' := 230) d1_228 rfl (rfl) rfl ?_
        refine OwnW.aloadN (pc' := 231) d1_230 rfl (rfl) rfl ?_
        refine OwnW.iload (pc' := 233) d1_231 rfl rfl ?_
        obtain ⟨cl151, Ar151, qk151, Sz151, Mn151, Hv151, Gf151⟩ := id F82
        refine OwnW.iaload (pc' := 234) (v := (.int g2)) d1_233 Ar151 (inb_of Sz151 ⟨by decide, by decide⟩) (Hv151.at (inb_of Sz151 ⟨by decide, by decide⟩) rfl) rfl ?_
        refine OwnW.dup2 (pc' := 235) d1_234 rfl rfl rfl ?_
        have F152 := (VC77.other W79 (Ne.symm (Nat.ne_of_lt lt_am_ad68_0)))
        obtain ⟨cl153, Ar153, qk153, Sz153, Mn153, Hv153, Gf153⟩ := id F152
        refine OwnW.iaload (pc' := 236) (v := .int (C77.getD g2.toNatClampNeg 0)) d1_235 Ar153 (inb_of Sz153 (own_bd hg2)) (Hv153.at (inb_of Sz153 (own_bd hg2)) (own_gd C77 g2.toNatClampNeg)) rfl ?_
        show GoB13 l Z n0 (Q13 Z o q0 q1 kg ks g0 g1 g2 s0 s1 s2 h0) h79 4 13 236 #[.val (.ref o), .val (.ref q0), .val (.ref q1), .val (.int (2 : Int32)), .val (.ref ad3), .val (.ref ad52), .val (.ref am), .val (.ref ad68_0), .val (.int (2 : Int32))] [(.int (C77.getD g2.toNatClampNeg 0)), (.int g2), (.ref ad68_0), (.ref am)]
        refine OwnW.dupX2 (pc' := 237) d1_236 rfl ?_
        refine OwnW.iconst (pc' := 238) (v := (1 : Int32)) d1_237 rfl rfl ?_
        refine OwnW.iadd (pc' := 239) d1_238 rfl ?_
        obtain ⟨cl154, Ar154, qk154, Sz154, Mn154, Hv154, Gf154⟩ := id F152
        refine OwnW.stI (pc' := 240) d1_239 Ar154 (inb_of Sz154 (own_bd hg2)) ge_ad68_0 rfl ?_
        intro h154 W154
        have sz156 : n0 ≤ h154.size := (by rw [W154.size]; exact sz81)
        obtain ⟨C155, hC155⟩ : ∃ z : List Int32, z = (C77.set g2.toNatClampNeg ((C77.getD g2.toNatClampNeg 0) + (1 : Int32))) := ⟨_, rfl⟩
        have VC155 : Arv Z h154 ad68_0 kc68_0 .int (3 : Int32) (C155.map Value.int) (.int (0 : Int32)) := by rw [hC155, List.map_set]; exact Arv.set Ar154 qk154 Sz154 Mn154 Hv154 Gf154 rfl W154 g2.toNatClampNeg rfl (own_ln (z := (3 : Int32)) lC77 (own_bd hg2))
        have lC155 : C155.length = 3 := by rw [hC155, List.length_set]; exact lC77
        show GoB13 l Z n0 (Q13 Z o q0 q1 kg ks g0 g1 g2 s0 s1 s2 h0) h154 4 13 240 #[.val (.ref o), .val (.ref q0), .val (.ref q1), .val (.int (2 : Int32)), .val (.ref ad3), .val (.ref ad52), .val (.ref am), .val (.ref ad68_0), .val (.int (2 : Int32))] [(.int (C77.getD g2.toNatClampNeg 0)), (.ref am)]
        refine OwnW.iload (pc' := 242) d1_240 rfl rfl ?_
        have F158 := (Y79.other W154 (Nat.ne_of_lt lt_am_ad68_0))
        obtain ⟨cl157, Ar157, Sz157⟩ := id F158
        refine OwnW.stI (pc' := 243) d1_242 Ar157 (inb_of Sz157 (own_mb3_3 hg0 hg1 hg2 hC15 hC18 hC33 hC48 hC53 hC58 hC64 hC74 hC77 hC155 htt hc223 hc223_1 hc223_2)) ge_am rfl ?_
        intro h157 W157
        have sz159 : n0 ≤ h157.size := (by rw [W157.size]; exact sz156)
        have Y157 : Wk Z h157 am tt := Wk.same ⟨cl157, Ar157, Sz157⟩ W157
        show GoB13 l Z n0 (Q13 Z o q0 q1 kg ks g0 g1 g2 s0 s1 s2 h0) h157 4 13 243 #[.val (.ref o), .val (.ref q0), .val (.ref q1), .val (.int (2 : Int32)), .val (.ref ad3), .val (.ref ad52), .val (.ref am), .val (.ref ad68_0), .val (.int (2 : Int32))] []
        refine OwnW.iinc (pc' := 246) (L' := #[.val (.ref o), .val (.ref q0), .val (.ref q1), .val (.int (2 : Int32)), .val (.ref ad3), .val (.ref ad52), .val (.ref am), .val (.ref ad68_0), .val (.int (3 : Int32))]) (d := (1 : Int32)) d1_243 rfl rfl rfl rfl ?_
        refine OwnW.goto (pc' := 212) d1_246 (by decide) (by decide) ?_
        refine OwnW.iload (pc' := 214) d1_212 rfl rfl ?_
        refine OwnW.aloadN (pc' := 215) d1_214 rfl (rfl) rfl ?_
        have F160 := ((F82.other W154 (Nat.ne_of_lt lt_q0_ad68_0)).other W157 (Nat.ne_of_lt lt_q0_am))
        obtain ⟨cl161, Ar161, qk161, Sz161, Mn161, Hv161, Gf161⟩ := id F160
        refine OwnW.alen (pc' := 216) (x := (3 : Int32)) d1_215 Ar161 (len_of Sz161 Mn161) rfl ?_
        refine OwnW.icmpY (pc' := 249) d1_216 (flt (by decide)).2.1 (by decide) (by decide) ?_
        refine OwnW.aloadN (pc' := 250) d1_249 rfl (rfl) rfl ?_
        refine OwnW.aloadN (pc' := 251) d1_250 rfl (rfl) rfl ?_
        have F163 := (((((((((((((F_groups.ext E3).other W17 (Or.inl (Nat.ne_of_lt lt_o_ad3))).other W32 (Or.inl (Nat.ne_of_lt lt_o_ad3))).other W47 (Or.inl (Nat.ne_of_lt lt_o_ad3))).ext E52).other W57 (Or.inl (Nat.ne_of_lt lt_o_ad52))).other W63 (Or.inl (Nat.ne_of_lt lt_o_ad52))).ext Em).keep K68 nin0).other W76 (Or.inl (Nat.ne_of_lt lt_o_ad68_0))).other W79 (Or.inl (Nat.ne_of_lt lt_o_am))).other W154 (Or.inl (Nat.ne_of_lt lt_o_ad68_0))).other W157 (Or.inl (Nat.ne_of_lt lt_o_am)))
        have F164 := (((((((((((((E_o.ext E3).wr W17).wr W32).wr W47).ext E52).wr W57).wr W63).ext Em).keep K68).wr W76).wr W79).wr W154).wr W157)
        refine OwnW.putF (a0 := a0) (pc' := 254) d1_251 (host := "") (Or.inl (hw _ (List.mem_of_getElem? (i := 23) rfl))) Via.refl F163 F164 (Or.inr ⟨(hw _ (List.mem_of_getElem? (i := 24) rfl)), rfl, rfl⟩) (hw _ (List.mem_of_getElem? (i := 3) rfl)) (ty := (.array .int)) (by decide) rfl rfl g_o rfl ?_
        intro h162 W162
        have sz165 : n0 ≤ h162.size := (by rw [W162.size]; exact sz159)
        have F166 := F163.same W162
        refine OwnW.aloadN (pc' := 255) d1_254 rfl (rfl) rfl ?_
        refine OwnW.aloadN (pc' := 256) d1_255 rfl (rfl) rfl ?_
        have F168 := ((((((((((((((F_shares.ext E3).other W17 (Or.inl (Nat.ne_of_lt lt_o_ad3))).other W32 (Or.inl (Nat.ne_of_lt lt_o_ad3))).other W47 (Or.inl (Nat.ne_of_lt lt_o_ad3))).ext E52).other W57 (Or.inl (Nat.ne_of_lt lt_o_ad52))).other W63 (Or.inl (Nat.ne_of_lt lt_o_ad52))).ext Em).keep K68 nin0).other W76 (Or.inl (Nat.ne_of_lt lt_o_ad68_0))).other W79 (Or.inl (Nat.ne_of_lt lt_o_am))).other W154 (Or.inl (Nat.ne_of_lt lt_o_ad68_0))).other W157 (Or.inl (Nat.ne_of_lt lt_o_am))).other W162 (Or.inr (slot_ne (a0 := a0) (C := "com/example/sieve_for_links/sieveforlinks/VirtualLinks") (Or.inr (hw _ (List.mem_of_getElem? (i := 26) rfl))) (Or.inr (hw _ (List.mem_of_getElem? (i := 24) rfl))) (by decide) (t := (.array .double)) (t' := (.array .int)) (by decide) (by decide))))
        have F169 := (F164.wr W162)
        refine OwnW.putF (a0 := a0) (pc' := 259) d1_256 (host := "") (Or.inl (hw _ (List.mem_of_getElem? (i := 25) rfl))) Via.refl F168 F169 (Or.inr ⟨(hw _ (List.mem_of_getElem? (i := 26) rfl)), rfl, rfl⟩) (hw _ (List.mem_of_getElem? (i := 3) rfl)) (ty := (.array .double)) (by decide) rfl rfl g_o rfl ?_
        intro h167 W167
        have sz170 : n0 ≤ h167.size := (by rw [W167.size]; exact sz165)
        have F171 := F168.same W167
        refine OwnW.aloadN (pc' := 260) d1_259 rfl (rfl) rfl ?_
        refine OwnW.aload (pc' := 262) d1_260 rfl (rfl) rfl ?_
        have F173 := (((((((((((((((F_members.ext E3).other W17 (Or.inl (Nat.ne_of_lt lt_o_ad3))).other W32 (Or.inl (Nat.ne_of_lt lt_o_ad3))).other W47 (Or.inl (Nat.ne_of_lt lt_o_ad3))).ext E52).other W57 (Or.inl (Nat.ne_of_lt lt_o_ad52))).other W63 (Or.inl (Nat.ne_of_lt lt_o_ad52))).ext Em).keep K68 nin0).other W76 (Or.inl (Nat.ne_of_lt lt_o_ad68_0))).other W79 (Or.inl (Nat.ne_of_lt lt_o_am))).other W154 (Or.inl (Nat.ne_of_lt lt_o_ad68_0))).other W157 (Or.inl (Nat.ne_of_lt lt_o_am))).other W162 (Or.inr (slot_ne (a0 := a0) (C := "com/example/sieve_for_links/sieveforlinks/VirtualLinks") (Or.inr (hw _ (List.mem_of_getElem? (i := 28) rfl))) (Or.inr (hw _ (List.mem_of_getElem? (i := 24) rfl))) (by decide) (t := (.array .int)) (t' := (.array .int)) (by decide) (by decide)))).other W167 (Or.inr (slot_ne (a0 := a0) (C := "com/example/sieve_for_links/sieveforlinks/VirtualLinks") (Or.inr (hw _ (List.mem_of_getElem? (i := 28) rfl))) (Or.inr (hw _ (List.mem_of_getElem? (i := 26) rfl))) (by decide) (t := (.array .int)) (t' := (.array .double)) (by decide) (by decide))))
        have F174 := (F169.wr W167)
        refine OwnW.putF (a0 := a0) (pc' := 265) d1_262 (host := "") (Or.inl (hw _ (List.mem_of_getElem? (i := 27) rfl))) Via.refl F173 F174 (Or.inr ⟨(hw _ (List.mem_of_getElem? (i := 28) rfl)), rfl, rfl⟩) (hw _ (List.mem_of_getElem? (i := 3) rfl)) (ty := (.array .int)) (by decide) rfl rfl g_o rfl ?_
        intro h172 W172
        have sz175 : n0 ≤ h172.size := (by rw [W172.size]; exact sz170)
        have F176 := F173.same W172
        refine OwnW.aloadN (pc' := 266) d1_265 rfl (rfl) rfl ?_
        refine OwnW.aload (pc' := 268) d1_266 rfl (rfl) rfl ?_
        have F178 := ((((((((((((((((F_memberStarts.ext E3).other W17 (Or.inl (Nat.ne_of_lt lt_o_ad3))).other W32 (Or.inl (Nat.ne_of_lt lt_o_ad3))).other W47 (Or.inl (Nat.ne_of_lt lt_o_ad3))).ext E52).other W57 (Or.inl (Nat.ne_of_lt lt_o_ad52))).other W63 (Or.inl (Nat.ne_of_lt lt_o_ad52))).ext Em).keep K68 nin0).other W76 (Or.inl (Nat.ne_of_lt lt_o_ad68_0))).other W79 (Or.inl (Nat.ne_of_lt lt_o_am))).other W154 (Or.inl (Nat.ne_of_lt lt_o_ad68_0))).other W157 (Or.inl (Nat.ne_of_lt lt_o_am))).other W162 (Or.inr (slot_ne (a0 := a0) (C := "com/example/sieve_for_links/sieveforlinks/VirtualLinks") (Or.inr (hw _ (List.mem_of_getElem? (i := 30) rfl))) (Or.inr (hw _ (List.mem_of_getElem? (i := 24) rfl))) (by decide) (t := (.array .int)) (t' := (.array .int)) (by decide) (by decide)))).other W167 (Or.inr (slot_ne (a0 := a0) (C := "com/example/sieve_for_links/sieveforlinks/VirtualLinks") (Or.inr (hw _ (List.mem_of_getElem? (i := 30) rfl))) (Or.inr (hw _ (List.mem_of_getElem? (i := 26) rfl))) (by decide) (t := (.array .int)) (t' := (.array .double)) (by decide) (by decide)))).other W172 (Or.inr (slot_ne (a0 := a0) (C := "com/example/sieve_for_links/sieveforlinks/VirtualLinks") (Or.inr (hw _ (List.mem_of_getElem? (i := 30) rfl))) (Or.inr (hw _ (List.mem_of_getElem? (i := 28) rfl))) (by decide) (t := (.array .int)) (t' := (.array .int)) (by decide) (by decide))))
        have F179 := (F174.wr W172)
        refine OwnW.putF (a0 := a0) (pc' := 271) d1_268 (host := "") (Or.inl (hw _ (List.mem_of_getElem? (i := 29) rfl))) Via.refl F178 F179 (Or.inr ⟨(hw _ (List.mem_of_getElem? (i := 30) rfl)), rfl, rfl⟩) (hw _ (List.mem_of_getElem? (i := 3) rfl)) (ty := (.array .int)) (by decide) rfl rfl g_o rfl ?_
        intro h177 W177
        have sz180 : n0 ≤ h177.size := (by rw [W177.size]; exact sz175)
        have F181 := F178.same W177
        exact OwnW.ret0 d1_271 rfl (by decide) (by decide) (⟨rfl, ((((((((((((((((((Keep.refl h0 [o]).ext E3).wr W17 (Or.inr (Nat.le_trans (Nat.le_refl _) (Nat.le_of_eq g3.symm)))).wr W32 (Or.inr (Nat.le_trans (Nat.le_refl _) (Nat.le_of_eq g3.symm)))).wr W47 (Or.inr (Nat.le_trans (Nat.le_refl _) (Nat.le_of_eq g3.symm)))).ext E52).wr W57 (Or.inr (Nat.le_trans (Nat.le_trans (Nat.le_trans (Nat.le_trans (Nat.le_trans (Nat.le_refl _) E3.1) (Nat.le_of_eq W17.size.symm)) (Nat.le_of_eq W32.size.symm)) (Nat.le_of_eq W47.size.symm)) (Nat.le_of_eq g52.symm)))).wr W63 (Or.inr (Nat.le_trans (Nat.le_trans (Nat.le_trans (Nat.le_trans (Nat.le_trans (Nat.le_refl _) E3.1) (Nat.le_of_eq W17.size.symm)) (Nat.le_of_eq W32.size.symm)) (Nat.le_of_eq W47.size.symm)) (Nat.le_of_eq g52.symm)))).ext Em).trans K68 all0).wr W76 (Or.inr (Nat.le_trans (Nat.le_trans (Nat.le_trans (Nat.le_trans (Nat.le_trans (Nat.le_trans (Nat.le_trans (Nat.le_trans (Nat.le_trans (Nat.le_refl _) E3.1) (Nat.le_of_eq W17.size.symm)) (Nat.le_of_eq W32.size.symm)) (Nat.le_of_eq W47.size.symm)) E52.1) (Nat.le_of_eq W57.size.symm)) (Nat.le_of_eq W63.size.symm)) Em.1) gl68_0))).wr W79 (Or.inr (Nat.le_trans (Nat.le_trans (Nat.le_trans (Nat.le_trans (Nat.le_trans (Nat.le_trans (Nat.le_trans (Nat.le_trans (Nat.le_refl _) E3.1) (Nat.le_of_eq W17.size.symm)) (Nat.le_of_eq W32.size.symm)) (Nat.le_of_eq W47.size.symm)) E52.1) (Nat.le_of_eq W57.size.symm)) (Nat.le_of_eq W63.size.symm)) (Nat.le_of_eq gm.symm)))).wr W154 (Or.inr (Nat.le_trans (Nat.le_trans (Nat.le_trans (Nat.le_trans (Nat.le_trans (Nat.le_trans (Nat.le_trans (Nat.le_trans (Nat.le_trans (Nat.le_refl _) E3.1) (Nat.le_of_eq W17.size.symm)) (Nat.le_of_eq W32.size.symm)) (Nat.le_of_eq W47.size.symm)) E52.1) (Nat.le_of_eq W57.size.symm)) (Nat.le_of_eq W63.size.symm)) Em.1) gl68_0))).wr W157 (Or.inr (Nat.le_trans (Nat.le_trans (Nat.le_trans (Nat.le_trans (Nat.le_trans (Nat.le_trans (Nat.le_trans (Nat.le_trans (Nat.le_refl _) E3.1) (Nat.le_of_eq W17.size.symm)) (Nat.le_of_eq W32.size.symm)) (Nat.le_of_eq W47.size.symm)) E52.1) (Nat.le_of_eq W57.size.symm)) (Nat.le_of_eq W63.size.symm)) (Nat.le_of_eq gm.symm)))).wr W162 (Or.inl (List.mem_of_getElem? (i := 0) rfl))).wr W167 (Or.inl (List.mem_of_getElem? (i := 0) rfl))).wr W172 (Or.inl (List.mem_of_getElem? (i := 0) rfl))).wr W177 (Or.inl (List.mem_of_getElem? (i := 0) rfl))), (F179.wr W177), (((F166.other W167 (Or.inr (slot_ne (a0 := a0) (C := "com/example/sieve_for_links/sieveforlinks/VirtualLinks") (Or.inr (hw _ (List.mem_of_getElem? (i := 24) rfl))) (Or.inr (hw _ (List.mem_of_getElem? (i := 26) rfl))) (by decide) (t := (.array .int)) (t' := (.array .double)) (by decide) (by decide)))).other W172 (Or.inr (slot_ne (a0 := a0) (C := "com/example/sieve_for_links/sieveforlinks/VirtualLinks") (Or.inr (hw _ (List.mem_of_getElem? (i := 24) rfl))) (Or.inr (hw _ (List.mem_of_getElem? (i := 28) rfl))) (by decide) (t := (.array .int)) (t' := (.array .int)) (by decide) (by decide)))).other W177 (Or.inr (slot_ne (a0 := a0) (C := "com/example/sieve_for_links/sieveforlinks/VirtualLinks") (Or.inr (hw _ (List.mem_of_getElem? (i := 24) rfl))) (Or.inr (hw _ (List.mem_of_getElem? (i := 30) rfl))) (by decide) (t := (.array .int)) (t' := (.array .int)) (by decide) (by decide))))⟩)
      ·
        refine OwnW.ifcY (pc' := 243) d1_223 ((if0 _ _).trans (flt hc223_2).2.2.2) (by decide) (by decide) ?_
        refine OwnW.iinc (pc' := 246) (L' := #[.val (.ref o), .val (.ref q0), .val (.ref q1), .val (.int (2 : Int32)), .val (.ref ad3), .val (.ref ad52), .val (.ref am), .val (.ref ad68_0), .val (.int (3 : Int32))]) (d := (1 : Int32)) d1_243 rfl rfl rfl rfl ?_
        refine OwnW.goto (pc' := 212) d1_246 (by decide) (by decide) ?_
        refine OwnW.iload (pc' := 214) d1_212 rfl rfl ?_
        refine OwnW.aloadN (pc' := 215) d1_214 rfl (rfl) rfl ?_
        obtain ⟨cl182, Ar182, qk182, Sz182, Mn182, Hv182, Gf182⟩ := id F82
        refine OwnW.alen (pc' := 216) (x := (3 : Int32)) d1_215 Ar182 (len_of Sz182 Mn182) rfl ?_
        refine OwnW.icmpY (pc' := 249) d1_216 (flt (by decide)).2.1 (by decide) (by decide) ?_
        refine OwnW.aloadN (pc' := 250) d1_249 rfl (rfl) rfl ?_
        refine OwnW.aloadN (pc' := 251) d1_250 rfl (rfl) rfl ?_
        have F184 := (((((((((((F_groups.ext E3).other W17 (Or.inl (Nat.ne_of_lt lt_o_ad3))).other W32 (Or.inl (Nat.ne_of_lt lt_o_ad3))).other W47 (Or.inl (Nat.ne_of_lt lt_o_ad3))).ext E52).other W57 (Or.inl (Nat.ne_of_lt lt_o_ad52))).other W63 (Or.inl (Nat.ne_of_lt lt_o_ad52))).ext Em).keep K68 nin0).other W76 (Or.inl (Nat.ne_of_lt lt_o_ad68_0))).other W79 (Or.inl (Nat.ne_of_lt lt_o_am)))
        have F185 := (((((((((((E_o.ext E3).wr W17).wr W32).wr W47).ext E52).wr W57).wr W63).ext Em).keep K68).wr W76).wr W79)
        refine OwnW.putF (a0 := a0) (pc' := 254) d1_251 (host := "") (Or.inl (hw _ (List.mem_of_getElem? (i := 23) rfl))) Via.refl F184 F185 (Or.inr ⟨(hw _ (List.mem_of_getElem? (i := 24) rfl)), rfl, rfl⟩) (hw _ (List.mem_of_getElem? (i := 3) rfl)) (ty := (.array .int)) (by decide) rfl rfl g_o rfl ?_
        intro h183 W183
        have sz186 : n0 ≤ h183.size := (by rw [W183.size]; exact sz81)
        have F187 := F184.same W183
        refine OwnW.aloadN (pc' := 255) d1_254 rfl (rfl) rfl ?_
        refine OwnW.aloadN (pc' := 256) d1_255 rfl (rfl) rfl ?_
        have F189 := ((((((((((((F_shares.ext E3).other W17 (Or.inl (Nat.ne_of_lt lt_o_ad3))).other W32 (Or.inl (Nat.ne_of_lt lt_o_ad3))).other W47 (Or.inl (Nat.ne_of_lt lt_o_ad3))).ext E52).other W57 (Or.inl (Nat.ne_of_lt lt_o_ad52))).other W63 (Or.inl (Nat.ne_of_lt lt_o_ad52))).ext Em).keep K68 nin0).other W76 (Or.inl (Nat.ne_of_lt lt_o_ad68_0))).other W79 (Or.inl (Nat.ne_of_lt lt_o_am))).other W183 (Or.inr (slot_ne (a0 := a0) (C := "com/example/sieve_for_links/sieveforlinks/VirtualLinks") (Or.inr (hw _ (List.mem_of_getElem? (i := 26) rfl))) (Or.inr (hw _ (List.mem_of_getElem? (i := 24) rfl))) (by decide) (t := (.array .double)) (t' := (.array .int)) (by decide) (by decide))))
        have F190 := (F185.wr W183)
        refine OwnW.putF (a0 := a0) (pc' := 259) d1_256 (host := "") (Or.inl (hw _ (List.mem_of_getElem? (i := 25) rfl))) Via.refl F189 F190 (Or.inr ⟨(hw _ (List.mem_of_getElem? (i := 26) rfl)), rfl, rfl⟩) (hw _ (List.mem_of_getElem? (i := 3) rfl)) (ty := (.array .double)) (by decide) rfl rfl g_o rfl ?_
        intro h188 W188
        have sz191 : n0 ≤ h188.size := (by rw [W188.size]; exact sz186)
        have F192 := F189.same W188
        refine OwnW.aloadN (pc' := 260) d1_259 rfl (rfl) rfl ?_
        refine OwnW.aload (pc' := 262) d1_260 rfl (rfl) rfl ?_
        have F194 := (((((((((((((F_members.ext E3).other W17 (Or.inl (Nat.ne_of_lt lt_o_ad3))).other W32 (Or.inl (Nat.ne_of_lt lt_o_ad3))).other W47 (Or.inl (Nat.ne_of_lt lt_o_ad3))).ext E52).other W57 (Or.inl (Nat.ne_of_lt lt_o_ad52))).other W63 (Or.inl (Nat.ne_of_lt lt_o_ad52))).ext Em).keep K68 nin0).other W76 (Or.inl (Nat.ne_of_lt lt_o_ad68_0))).other W79 (Or.inl (Nat.ne_of_lt lt_o_am))).other W183 (Or.inr (slot_ne (a0 := a0) (C := "com/example/sieve_for_links/sieveforlinks/VirtualLinks") (Or.inr (hw _ (List.mem_of_getElem? (i := 28) rfl))) (Or.inr (hw _ (List.mem_of_getElem? (i := 24) rfl))) (by decide) (t := (.array .int)) (t' := (.array .int)) (by decide) (by decide)))).other W188 (Or.inr (slot_ne (a0 := a0) (C := "com/example/sieve_for_links/sieveforlinks/VirtualLinks") (Or.inr (hw _ (List.mem_of_getElem? (i := 28) rfl))) (Or.inr (hw _ (List.mem_of_getElem? (i := 26) rfl))) (by decide) (t := (.array .int)) (t' := (.array .double)) (by decide) (by decide))))
        have F195 := (F190.wr W188)
        refine OwnW.putF (a0 := a0) (pc' := 265) d1_262 (host := "") (Or.inl (hw _ (List.mem_of_getElem? (i := 27) rfl))) Via.refl F194 F195 (Or.inr ⟨(hw _ (List.mem_of_getElem? (i := 28) rfl)), rfl, rfl⟩) (hw _ (List.mem_of_getElem? (i := 3) rfl)) (ty := (.array .int)) (by decide) rfl rfl g_o rfl ?_
        intro h193 W193
        have sz196 : n0 ≤ h193.size := (by rw [W193.size]; exact sz191)
        have F197 := F194.same W193
        refine OwnW.aloadN (pc' := 266) d1_265 rfl (rfl) rfl ?_
        refine OwnW.aload (pc' := 268) d1_266 rfl (rfl) rfl ?_
        have F199 := ((((((((((((((F_memberStarts.ext E3).other W17 (Or.inl (Nat.ne_of_lt lt_o_ad3))).other W32 (Or.inl (Nat.ne_of_lt lt_o_ad3))).other W47 (Or.inl (Nat.ne_of_lt lt_o_ad3))).ext E52).other W57 (Or.inl (Nat.ne_of_lt lt_o_ad52))).other W63 (Or.inl (Nat.ne_of_lt lt_o_ad52))).ext Em).keep K68 nin0).other W76 (Or.inl (Nat.ne_of_lt lt_o_ad68_0))).other W79 (Or.inl (Nat.ne_of_lt lt_o_am))).other W183 (Or.inr (slot_ne (a0 := a0) (C := "com/example/sieve_for_links/sieveforlinks/VirtualLinks") (Or.inr (hw _ (List.mem_of_getElem? (i := 30) rfl))) (Or.inr (hw _ (List.mem_of_getElem? (i := 24) rfl))) (by decide) (t := (.array .int)) (t' := (.array .int)) (by decide) (by decide)))).other W188 (Or.inr (slot_ne (a0 := a0) (C := "com/example/sieve_for_links/sieveforlinks/VirtualLinks") (Or.inr (hw _ (List.mem_of_getElem? (i := 30) rfl))) (Or.inr (hw _ (List.mem_of_getElem? (i := 26) rfl))) (by decide) (t := (.array .int)) (t' := (.array .double)) (by decide) (by decide)))).other W193 (Or.inr (slot_ne (a0 := a0) (C := "com/example/sieve_for_links/sieveforlinks/VirtualLinks") (Or.inr (hw _ (List.mem_of_getElem? (i := 30) rfl))) (Or.inr (hw _ (List.mem_of_getElem? (i := 28) rfl))) (by decide) (t := (.array .int)) (t' := (.array .int)) (by decide) (by decide))))
        have F200 := (F195.wr W193)
        refine OwnW.putF (a0 := a0) (pc' := 271) d1_268 (host := "") (Or.inl (hw _ (List.mem_of_getElem? (i := 29) rfl))) Via.refl F199 F200 (Or.inr ⟨(hw _ (List.mem_of_getElem? (i := 30) rfl)), rfl, rfl⟩) (hw _ (List.mem_of_getElem? (i := 3) rfl)) (ty := (.array .int)) (by decide) rfl rfl g_o rfl ?_
        intro h198 W198
        have sz201 : n0 ≤ h198.size := (by rw [W198.size]; exact sz196)
        have F202 := F199.same W198
        exact OwnW.ret0 d1_271 rfl (by decide) (by decide) (⟨rfl, ((((((((((((((((Keep.refl h0 [o]).ext E3).wr W17 (Or.inr (Nat.le_trans (Nat.le_refl _) (Nat.le_of_eq g3.symm)))).wr W32 (Or.inr (Nat.le_trans (Nat.le_refl _) (Nat.le_of_eq g3.symm)))).wr W47 (Or.inr (Nat.le_trans (Nat.le_refl _) (Nat.le_of_eq g3.symm)))).ext E52).wr W57 (Or.inr (Nat.le_trans (Nat.le_trans (Nat.le_trans (Nat.le_trans (Nat.le_trans (Nat.le_refl _) E3.1) (Nat.le_of_eq W17.size.symm)) (Nat.le_of_eq W32.size.symm)) (Nat.le_of_eq W47.size.symm)) (Nat.le_of_eq g52.symm)))).wr W63 (Or.inr (Nat.le_trans (Nat.le_trans (Nat.le_trans (Nat.le_trans (Nat.le_trans (Nat.le_refl _) E3.1) (Nat.le_of_eq W17.size.symm)) (Nat.le_of_eq W32.size.symm)) (Nat.le_of_eq W47.size.symm)) (Nat.le_of_eq g52.symm)))).ext Em).trans K68 all0).wr W76 (Or.inr (Nat.le_trans (Nat.le_trans (Nat.le_trans (Nat.le_trans (Nat.le_trans (Nat.le_trans (Nat.le_trans (Nat.le_trans (Nat.le_trans (Nat.le_refl _) E3.1) (Nat.le_of_eq W17.size.symm)) (Nat.le_of_eq W32.size.symm)) (Nat.le_of_eq W47.size.symm)) E52.1) (Nat.le_of_eq W57.size.symm)) (Nat.le_of_eq W63.size.symm)) Em.1) gl68_0))).wr W79 (Or.inr (Nat.le_trans (Nat.le_trans (Nat.le_trans (Nat.le_trans (Nat.le_trans (Nat.le_trans (Nat.le_trans (Nat.le_trans (Nat.le_refl _) E3.1) (Nat.le_of_eq W17.size.symm)) (Nat.le_of_eq W32.size.symm)) (Nat.le_of_eq W47.size.symm)) E52.1) (Nat.le_of_eq W57.size.symm)) (Nat.le_of_eq W63.size.symm)) (Nat.le_of_eq gm.symm)))).wr W183 (Or.inl (List.mem_of_getElem? (i := 0) rfl))).wr W188 (Or.inl (List.mem_of_getElem? (i := 0) rfl))).wr W193 (Or.inl (List.mem_of_getElem? (i := 0) rfl))).wr W198 (Or.inl (List.mem_of_getElem? (i := 0) rfl))), (F200.wr W198), (((F187.other W188 (Or.inr (slot_ne (a0 := a0) (C := "com/example/sieve_for_links/sieveforlinks/VirtualLinks") (Or.inr (hw _ (List.mem_of_getElem? (i := 24) rfl))) (Or.inr (hw _ (List.mem_of_getElem? (i := 26) rfl))) (by decide) (t := (.array .int)) (t' := (.array .double)) (by decide) (by decide)))).other W193 (Or.inr (slot_ne (a0 := a0) (C := "com/example/sieve_for_links/sieveforlinks/VirtualLinks") (Or.inr (hw _ (List.mem_of_getElem? (i := 24) rfl))) (Or.inr (hw _ (List.mem_of_getElem? (i := 28) rfl))) (by decide) (t := (.array .int)) (t' := (.array .int)) (by decide) (by decide)))).other W198 (Or.inr (slot_ne (a0 := a0) (C := "com/example/sieve_for_links/sieveforlinks/VirtualLinks") (Or.inr (hw _ (List.mem_of_getElem? (i := 24) rfl))) (Or.inr (hw _ (List.mem_of_getElem? (i := 30) rfl))) (by decide) (t := (.array .int)) (t' := (.array .int)) (by decide) (by decide))))⟩)
  ·
    refine OwnW.ifcY (pc' := 243) d1_223 ((if0 _ _).trans (flt hc223).2.2.2) (by decide) (by decide) ?_
    refine OwnW.iinc (pc' := 246) (L' := #[.val (.ref o), .val (.ref q0), .val (.ref q1), .val (.int (2 : Int32)), .val (.ref ad3), .val (.ref ad52), .val (.ref am), .val (.ref ad68_0), .val (.int (1 : Int32))]) (d := (1 : Int32)) d1_243 rfl rfl rfl rfl ?_
    refine OwnW.goto (pc' := 212) d1_246 (by decide) (by decide) ?_
    refine OwnW.iload (pc' := 214) d1_212 rfl rfl ?_
    refine OwnW.aloadN (pc' := 215) d1_214 rfl (rfl) rfl ?_
    obtain ⟨cl203, Ar203, qk203, Sz203, Mn203, Hv203, Gf203⟩ := id F70
    refine OwnW.alen (pc' := 216) (x := (3 : Int32)) d1_215 Ar203 (len_of Sz203 Mn203) rfl ?_
    refine OwnW.icmpN (pc' := 219) d1_216 (tlt (by decide)).2.1 rfl ?_
    refine OwnW.aloadN (pc' := 220) d1_219 rfl (rfl) rfl ?_
    refine OwnW.iload (pc' := 222) d1_220 rfl rfl ?_
    obtain ⟨cl204, Ar204, qk204, Sz204, Mn204, Hv204, Gf204⟩ := id F70
    refine OwnW.iaload (pc' := 223) (v := (.int g1)) d1_222 Ar204 (inb_of Sz204 ⟨by decide, by decide⟩) (Hv204.at (inb_of Sz204 ⟨by decide, by decide⟩) rfl) rfl ?_
    by_cases hc223_1 : (0 : Int32) < g1
    ·
      refine OwnW.ifcN (pc' := 226) d1_223 ((if0 _ _).trans (tlt hc223_1).2.2.2) rfl ?_
      refine OwnW.aload (pc' := 228) d1_226 rfl (rfl) rfl ?_
      refine OwnW.aload (pc' := 230) d1_228 rfl (rfl) rfl ?_
      refine OwnW.aloadN (pc' := 231) d1_230 rfl (rfl) rfl ?_
      refine OwnW.iload (pc' := 233) d1_231 rfl rfl ?_
      obtain ⟨cl205, Ar205, qk205, Sz205, Mn205, Hv205, Gf205⟩ := id F70
      refine OwnW.iaload (pc' := 234) (v := (.int g1)) d1_233 Ar205 (inb_of Sz205 ⟨by decide, by decide⟩) (Hv205.at (inb_of Sz205 ⟨by decide, by decide⟩) rfl) rfl ?_
      refine OwnW.dup2 (pc' := 235) d1_234 rfl rfl rfl ?_
      obtain ⟨C206, hC206⟩ : ∃ z : List Int32, z = [(C64.getD 0 0), (C64.getD 1 0), (C64.getD 2 0)] := ⟨_, rfl⟩
      have VC206 : Arv Z h68 ad68_0 kc68_0 .int (3 : Int32) (C206.map Value.int) (.int (0 : Int32)) := by rw [hC206]; exact Fc68_0
      have lC206 : C206.length = 3 := by rw [hC206]; rfl
      obtain ⟨cl207, Ar207, qk207, Sz207, Mn207, Hv207, Gf207⟩ := id VC206
      refine OwnW.iaload (pc' := 236) (v := .int (C206.getD g1.toNatClampNeg 0)) d1_235 Ar207 (inb_of Sz207 (own_bd hg1)) (Hv207.at (inb_of Sz207 (own_bd hg1)) (own_gd C206 g1.toNatClampNeg)) rfl ?_
      show GoB13 l Z n0 (Q13 Z o q0 q1 kg ks g0 g1 g2 s0 s1 s2 h0) h68 4 13 236 #[.val (.ref o), .val (.ref q0), .val (.ref q1), .val (.int (2 : Int32)), .val (.ref ad3), .val (.ref ad52), .val (.ref am), .val (.ref ad68_0), .val (.int (1 : Int32))] [(.int (C206.getD g1.toNatClampNeg 0)), (.int g1), (.ref ad68_0), (.ref am)]
      refine OwnW.dupX2 (pc' := 237) d1_236 rfl ?_
      refine OwnW.iconst (pc' := 238) (v := (1 : Int32)) d1_237 rfl rfl ?_
      refine OwnW.iadd (pc' := 239) d1_238 rfl ?_
      obtain ⟨cl208, Ar208, qk208, Sz208, Mn208, Hv208, Gf208⟩ := id VC206
      refine OwnW.stI (pc' := 240) d1_239 Ar208 (inb_of Sz208 (own_bd hg1)) ge_ad68_0 rfl ?_
      intro h208 W208
      have sz210 : n0 ≤ h208.size := (by rw [W208.size]; exact sz69)
      obtain ⟨C209, hC209⟩ : ∃ z : List Int32, z = (C206.set g1.toNatClampNeg ((C206.getD g1.toNatClampNeg 0) + (1 : Int32))) := ⟨_, rfl⟩
      have VC209 : Arv Z h208 ad68_0 kc68_0 .int (3 : Int32) (C209.map Value.int) (.int (0 : Int32)) := by rw [hC209, List.map_set]; exact Arv.set Ar208 qk208 Sz208 Mn208 Hv208 Gf208 rfl W208 g1.toNatClampNeg rfl (own_ln (z := (3 : Int32)) lC206 (own_bd hg1))
      have lC209 : C209.length = 3 := by rw [hC209, List.length_set]; exact lC206
      show GoB13 l Z n0 (Q13 Z o q0 q1 kg ks g0 g1 g2 s0 s1 s2 h0) h208 4 13 240 #[.val (.ref o), .val (.ref q0), .val (.ref q1), .val (.int (2 : Int32)), .val (.ref ad3), .val (.ref ad52), .val (.ref am), .val (.ref ad68_0), .val (.int (1 : Int32))] [(.int (C206.getD g1.toNatClampNeg 0)), (.ref am)]
      refine OwnW.iload (pc' := 242) d1_240 rfl rfl ?_
      have F212 := ((Ym.keep K68 nin0).other W208 (Nat.ne_of_lt lt_am_ad68_0))
      obtain ⟨cl211, Ar211, Sz211⟩ := id F212
      refine OwnW.stI (pc' := 243) d1_242 Ar211 (inb_of Sz211 (own_mb3_4 hg0 hg1 hg2 hC15 hC18 hC33 hC48 hC53 hC58 hC64 hC206 hC209 htt hc223 hc223_1)) ge_am rfl ?_
      intro h211 W211
      have sz213 : n0 ≤ h211.size := (by rw [W211.size]; exact sz210)
      have Y211 : Wk Z h211 am tt := Wk.same ⟨cl211, Ar211, Sz211⟩ W211
      show GoB13 l Z n0 (Q13 Z o q0 q1 kg ks g0 g1 g2 s0 s1 s2 h0) h211 4 13 243 #[.val (.ref o), .val (.ref q0), .val (.ref q1), .val (.int (2 : Int32)), .val (.ref ad3), .val (.ref ad52), .val (.ref am), .val (.ref ad68_0), .val (.int (1 : Int32))] []
      refine OwnW.iinc (pc' := 246) (L' := #[.val (.ref o), .val (.ref q0), .val (.ref q1), .val (.int (2 : Int32)), .val (.ref ad3), .val (.ref ad52), .val (.ref am), .val (.ref ad68_0), .val (.int (2 : Int32))]) (d := (1 : Int32)) d1_243 rfl rfl rfl rfl ?_
      refine OwnW.goto (pc' := 212) d1_246 (by decide) (by decide) ?_
      refine OwnW.iload (pc' := 214) d1_212 rfl rfl ?_
      refine OwnW.aloadN (pc' := 215) d1_214 rfl (rfl) rfl ?_
      have F214 := ((F70.other W208 (Nat.ne_of_lt lt_q0_ad68_0)).other W211 (Nat.ne_of_lt lt_q0_am))
      obtain ⟨cl215, Ar215, qk215, Sz215, Mn215, Hv215, Gf215⟩ := id F214
      refine OwnW.alen (pc' := 216) (x := (3 : Int32)) d1_215 Ar215 (len_of Sz215 Mn215) rfl ?_
      refine OwnW.icmpN (pc' := 219) d1_216 (tlt (by decide)).2.1 rfl ?_
      refine OwnW.aloadN (pc' := 220) d1_219 rfl (rfl) rfl ?_
      refine OwnW.iload (pc' := 222) d1_220 rfl rfl ?_
      obtain ⟨cl216, Ar216, qk216, Sz216, Mn216, Hv216, Gf216⟩ := id F214
      refine OwnW.iaload (pc' := 223) (v := (.int g2)) d1_222 Ar216 (inb_of Sz216 ⟨by decide, by decide⟩) (Hv216.at (inb_of Sz216 ⟨by decide, by decide⟩) rfl) rfl ?_
      by_cases hc223_2 : (0 : Int32) < g2
      ·
        refine OwnW.ifcN (pc' := 226) d1_223 ((if0 _ _).trans (tlt hc223_2).2.2.2) rfl ?_
        refine OwnW.aload (pc' := 228) d1_226 rfl (rfl) rfl ?_
        refine OwnW.aload (pc' := 230) d1_228 rfl (rfl) rfl ?_
        refine OwnW.aloadN (pc' := 231) d1_230 rfl (rfl) rfl ?_
        refine OwnW.iload (pc' := 233) d1_231 rfl rfl ?_
        obtain ⟨cl217, Ar217, qk217, Sz217, Mn217, Hv217, Gf217⟩ := id F214
        refine OwnW.iaload (pc' := 234) (v := (.int g2)) d1_233 Ar217 (inb_of Sz217 ⟨by decide, by decide⟩) (Hv217.at (inb_of Sz217 ⟨by decide, by decide⟩) rfl) rfl ?_
        refine OwnW.dup2 (pc' := 235) d1_234 rfl rfl rfl ?_
        have F218 := (VC209.other W211 (Ne.symm (Nat.ne_of_lt lt_am_ad68_0)))
        obtain ⟨cl219, Ar219, qk219, Sz219, Mn219, Hv219, Gf219⟩ := id F218
        refine OwnW.iaload (pc' := 236) (v := .int (C209.getD g2.toNatClampNeg 0)) d1_235 Ar219 (inb_of Sz219 (own_bd hg2)) (Hv219.at (inb_of Sz219 (own_bd hg2)) (own_gd C209 g2.toNatClampNeg)) rfl ?_
        show GoB13 l Z n0 (Q13 Z o q0 q1 kg ks g0 g1 g2 s0 s1 s2 h0) h211 4 13 236 #[.val (.ref o), .val (.ref q0), .val (.ref q1), .val (.int (2 : Int32)), .val (.ref ad3), .val (.ref ad52), .val (.ref am), .val (.ref ad68_0), .val (.int (2 : Int32))] [(.int (C209.getD g2.toNatClampNeg 0)), (.int g2), (.ref ad68_0), (.ref am)]
        refine OwnW.dupX2 (pc' := 237) d1_236 rfl ?_
        refine OwnW.iconst (pc' := 238) (v := (1 : Int32)) d1_237 rfl rfl ?_
        refine OwnW.iadd (pc' := 239) d1_238 rfl ?_
        obtain ⟨cl220, Ar220, qk220, Sz220, Mn220, Hv220, Gf220⟩ := id F218
        refine OwnW.stI (pc' := 240) d1_239 Ar220 (inb_of Sz220 (own_bd hg2)) ge_ad68_0 rfl ?_
        intro h220 W220
        have sz222 : n0 ≤ h220.size := (by rw [W220.size]; exact sz213)
        obtain ⟨C221, hC221⟩ : ∃ z : List Int32, z = (C209.set g2.toNatClampNeg ((C209.getD g2.toNatClampNeg 0) + (1 : Int32))) := ⟨_, rfl⟩
        have VC221 : Arv Z h220 ad68_0 kc68_0 .int (3 : Int32) (C221.map Value.int) (.int (0 : Int32)) := by rw [hC221, List.map_set]; exact Arv.set Ar220 qk220 Sz220 Mn220 Hv220 Gf220 rfl W220 g2.toNatClampNeg rfl (own_ln (z := (3 : Int32)) lC209 (own_bd hg2))
        have lC221 : C221.length = 3 := by rw [hC221, List.length_set]; exact lC209
        show GoB13 l Z n0 (Q13 Z o q0 q1 kg ks g0 g1 g2 s0 s1 s2 h0) h220 4 13 240 #[.val (.ref o), .val (.ref q0), .val (.ref q1), .val (.int (2 : Int32)), .val (.ref ad3), .val (.ref ad52), .val (.ref am), .val (.ref ad68_0), .val (.int (2 : Int32))] [(.int (C209.getD g2.toNatClampNeg 0)), (.ref am)]
        refine OwnW.iload (pc' := 242) d1_240 rfl rfl ?_
        have F224 := (Y211.other W220 (Nat.ne_of_lt lt_am_ad68_0))
        obtain ⟨cl223, Ar223, Sz223⟩ := id F224
        refine OwnW.stI (pc' := 243) d1_242 Ar223 (inb_of Sz223 (own_mb3_5 hg0 hg1 hg2 hC15 hC18 hC33 hC48 hC53 hC58 hC64 hC206 hC209 hC221 htt hc223 hc223_1 hc223_2)) ge_am rfl ?_
        intro h223 W223
        have sz225 : n0 ≤ h223.size := (by rw [W223.size]; exact sz222)
        have Y223 : Wk Z h223 am tt := Wk.same ⟨cl223, Ar223, Sz223⟩ W223
        show GoB13 l Z n0 (Q13 Z o q0 q1 kg ks g0 g1 g2 s0 s1 s2 h0) h223 4 13 243 #[.val (.ref o), .val (.ref q0), .val (.ref q1), .val (.int (2 : Int32)), .val (.ref ad3), .val (.ref ad52), .val (.ref am), .val (.ref ad68_0), .val (.int (2 : Int32))] []
        refine OwnW.iinc (pc' := 246) (L' := #[.val (.ref o), .val (.ref q0), .val (.ref q1), .val (.int (2 : Int32)), .val (.ref ad3), .val (.ref ad52), .val (.ref am), .val (.ref ad68_0), .val (.int (3 : Int32))]) (d := (1 : Int32)) d1_243 rfl rfl rfl rfl ?_
        refine OwnW.goto (pc' := 212) d1_246 (by decide) (by decide) ?_
        refine OwnW.iload (pc' := 214) d1_212 rfl rfl ?_
        refine OwnW.aloadN (pc' := 215) d1_214 rfl (rfl) rfl ?_
        have F226 := ((F214.other W220 (Nat.ne_of_lt lt_q0_ad68_0)).other W223 (Nat.ne_of_lt lt_q0_am))
        obtain ⟨cl227, Ar227, qk227, Sz227, Mn227, Hv227, Gf227⟩ := id F226
        refine OwnW.alen (pc' := 216) (x := (3 : Int32)) d1_215 Ar227 (len_of Sz227 Mn227) rfl ?_
        refine OwnW.icmpY (pc' := 249) d1_216 (flt (by decide)).2.1 (by decide) (by decide) ?_
        refine OwnW.aloadN (pc' := 250) d1_249 rfl (rfl) rfl ?_
        refine OwnW.aloadN (pc' := 251) d1_250 rfl (rfl) rfl ?_
        have F229 := (((((((((((((F_groups.ext E3).other W17 (Or.inl (Nat.ne_of_lt lt_o_ad3))).other W32 (Or.inl (Nat.ne_of_lt lt_o_ad3))).other W47 (Or.inl (Nat.ne_of_lt lt_o_ad3))).ext E52).other W57 (Or.inl (Nat.ne_of_lt lt_o_ad52))).other W63 (Or.inl (Nat.ne_of_lt lt_o_ad52))).ext Em).keep K68 nin0).other W208 (Or.inl (Nat.ne_of_lt lt_o_ad68_0))).other W211 (Or.inl (Nat.ne_of_lt lt_o_am))).other W220 (Or.inl (Nat.ne_of_lt lt_o_ad68_0))).other W223 (Or.inl (Nat.ne_of_lt lt_o_am)))
        have F230 := (((((((((((((E_o.ext E3).wr W17).wr W32).wr W47).ext E52).wr W57).wr W63).ext Em).keep K68).wr W208).wr W211).wr W220).wr W223)
        refine OwnW.putF (a0 := a0) (pc' := 254) d1_251 (host := "") (Or.inl (hw _ (List.mem_of_getElem? (i := 23) rfl))) Via.refl F229 F230 (Or.inr ⟨(hw _ (List.mem_of_getElem? (i := 24) rfl)), rfl, rfl⟩) (hw _ (List.mem_of_getElem? (i := 3) rfl)) (ty := (.array .int)) (by decide) rfl rfl g_o rfl ?_
        intro h228 W228
        have sz231 : n0 ≤ h228.size := (by rw [W228.size]; exact sz225)
        have F232 := F229.same W228
        refine OwnW.aloadN (pc' := 255) d1_254 rfl (rfl) rfl ?_
        refine OwnW.aloadN (pc' := 256) d1_255 rfl (rfl) rfl ?_
        have F234 := ((((((((((((((F_shares.ext E3).other W17 (Or.inl (Nat.ne_of_lt lt_o_ad3))).other W32 (Or.inl (Nat.ne_of_lt lt_o_ad3))).other W47 (Or.inl (Nat.ne_of_lt lt_o_ad3))).ext E52).other W57 (Or.inl (Nat.ne_of_lt lt_o_ad52))).other W63 (Or.inl (Nat.ne_of_lt lt_o_ad52))).ext Em).keep K68 nin0).other W208 (Or.inl (Nat.ne_of_lt lt_o_ad68_0))).other W211 (Or.inl (Nat.ne_of_lt lt_o_am))).other W220 (Or.inl (Nat.ne_of_lt lt_o_ad68_0))).other W223 (Or.inl (Nat.ne_of_lt lt_o_am))).other W228 (Or.inr (slot_ne (a0 := a0) (C := "com/example/sieve_for_links/sieveforlinks/VirtualLinks") (Or.inr (hw _ (List.mem_of_getElem? (i := 26) rfl))) (Or.inr (hw _ (List.mem_of_getElem? (i := 24) rfl))) (by decide) (t := (.array .double)) (t' := (.array .int)) (by decide) (by decide))))
        have F235 := (F230.wr W228)
        refine OwnW.putF (a0 := a0) (pc' := 259) d1_256 (host := "") (Or.inl (hw _ (List.mem_of_getElem? (i := 25) rfl))) Via.refl F234 F235 (Or.inr ⟨(hw _ (List.mem_of_getElem? (i := 26) rfl)), rfl, rfl⟩) (hw _ (List.mem_of_getElem? (i := 3) rfl)) (ty := (.array .double)) (by decide) rfl rfl g_o rfl ?_
        intro h233 W233
        have sz236 : n0 ≤ h233.size := (by rw [W233.size]; exact sz231)
        have F237 := F234.same W233
        refine OwnW.aloadN (pc' := 260) d1_259 rfl (rfl) rfl ?_
        refine OwnW.aload (pc' := 262) d1_260 rfl (rfl) rfl ?_
        have F239 := (((((((((((((((F_members.ext E3).other W17 (Or.inl (Nat.ne_of_lt lt_o_ad3))).other W32 (Or.inl (Nat.ne_of_lt lt_o_ad3))).other W47 (Or.inl (Nat.ne_of_lt lt_o_ad3))).ext E52).other W57 (Or.inl (Nat.ne_of_lt lt_o_ad52))).other W63 (Or.inl (Nat.ne_of_lt lt_o_ad52))).ext Em).keep K68 nin0).other W208 (Or.inl (Nat.ne_of_lt lt_o_ad68_0))).other W211 (Or.inl (Nat.ne_of_lt lt_o_am))).other W220 (Or.inl (Nat.ne_of_lt lt_o_ad68_0))).other W223 (Or.inl (Nat.ne_of_lt lt_o_am))).other W228 (Or.inr (slot_ne (a0 := a0) (C := "com/example/sieve_for_links/sieveforlinks/VirtualLinks") (Or.inr (hw _ (List.mem_of_getElem? (i := 28) rfl))) (Or.inr (hw _ (List.mem_of_getElem? (i := 24) rfl))) (by decide) (t := (.array .int)) (t' := (.array .int)) (by decide) (by decide)))).other W233 (Or.inr (slot_ne (a0 := a0) (C := "com/example/sieve_for_links/sieveforlinks/VirtualLinks") (Or.inr (hw _ (List.mem_of_getElem? (i := 28) rfl))) (Or.inr (hw _ (List.mem_of_getElem? (i := 26) rfl))) (by decide) (t := (.array .int)) (t' := (.array .double)) (by decide) (by decide))))
        have F240 := (F235.wr W233)
        refine OwnW.putF (a0 := a0) (pc' := 265) d1_262 (host := "") (Or.inl (hw _ (List.mem_of_getElem? (i := 27) rfl))) Via.refl F239 F240 (Or.inr ⟨(hw _ (List.mem_of_getElem? (i := 28) rfl)), rfl, rfl⟩) (hw _ (List.mem_of_getElem? (i := 3) rfl)) (ty := (.array .int)) (by decide) rfl rfl g_o rfl ?_
        intro h238 W238
        have sz241 : n0 ≤ h238.size := (by rw [W238.size]; exact sz236)
        have F242 := F239.same W238
        refine OwnW.aloadN (pc' := 266) d1_265 rfl (rfl) rfl ?_
        refine OwnW.aload (pc' := 268) d1_266 rfl (rfl) rfl ?_
        have F244 := ((((((((((((((((F_memberStarts.ext E3).other W17 (Or.inl (Nat.ne_of_lt lt_o_ad3))).other W32 (Or.inl (Nat.ne_of_lt lt_o_ad3))).other W47 (Or.inl (Nat.ne_of_lt lt_o_ad3))).ext E52).other W57 (Or.inl (Nat.ne_of_lt lt_o_ad52))).other W63 (Or.inl (Nat.ne_of_lt lt_o_ad52))).ext Em).keep K68 nin0).other W208 (Or.inl (Nat.ne_of_lt lt_o_ad68_0))).other W211 (Or.inl (Nat.ne_of_lt lt_o_am))).other W220 (Or.inl (Nat.ne_of_lt lt_o_ad68_0))).other W223 (Or.inl (Nat.ne_of_lt lt_o_am))).other W228 (Or.inr (slot_ne (a0 := a0) (C := "com/example/sieve_for_links/sieveforlinks/VirtualLinks") (Or.inr (hw _ (List.mem_of_getElem? (i := 30) rfl))) (Or.inr (hw _ (List.mem_of_getElem? (i := 24) rfl))) (by decide) (t := (.array .int)) (t' := (.array .int)) (by decide) (by decide)))).other W233 (Or.inr (slot_ne (a0 := a0) (C := "com/example/sieve_for_links/sieveforlinks/VirtualLinks") (Or.inr (hw _ (List.mem_of_getElem? (i := 30) rfl))) (Or.inr (hw _ (List.mem_of_getElem? (i := 26) rfl))) (by decide) (t := (.array .int)) (t' := (.array .double)) (by decide) (by decide)))).other W238 (Or.inr (slot_ne (a0 := a0) (C := "com/example/sieve_for_links/sieveforlinks/VirtualLinks") (Or.inr (hw _ (List.mem_of_getElem? (i := 30) rfl))) (Or.inr (hw _ (List.mem_of_getElem? (i := 28) rfl))) (by decide) (t := (.array .int)) (t' := (.array .int)) (by decide) (by decide))))
        have F245 := (F240.wr W238)
        refine OwnW.putF (a0 := a0) (pc' := 271) d1_268 (host := "") (Or.inl (hw _ (List.mem_of_getElem? (i := 29) rfl))) Via.refl F244 F245 (Or.inr ⟨(hw _ (List.mem_of_getElem? (i := 30) rfl)), rfl, rfl⟩) (hw _ (List.mem_of_getElem? (i := 3) rfl)) (ty := (.array .int)) (by decide) rfl rfl g_o rfl ?_
        intro h243 W243
        have sz246 : n0 ≤ h243.size := (by rw [W243.size]; exact sz241)
        have F247 := F244.same W243
        exact OwnW.ret0 d1_271 rfl (by decide) (by decide) (⟨rfl, ((((((((((((((((((Keep.refl h0 [o]).ext E3).wr W17 (Or.inr (Nat.le_trans (Nat.le_refl _) (Nat.le_of_eq g3.symm)))).wr W32 (Or.inr (Nat.le_trans (Nat.le_refl _) (Nat.le_of_eq g3.symm)))).wr W47 (Or.inr (Nat.le_trans (Nat.le_refl _) (Nat.le_of_eq g3.symm)))).ext E52).wr W57 (Or.inr (Nat.le_trans (Nat.le_trans (Nat.le_trans (Nat.le_trans (Nat.le_trans (Nat.le_refl _) E3.1) (Nat.le_of_eq W17.size.symm)) (Nat.le_of_eq W32.size.symm)) (Nat.le_of_eq W47.size.symm)) (Nat.le_of_eq g52.symm)))).wr W63 (Or.inr (Nat.le_trans (Nat.le_trans (Nat.le_trans (Nat.le_trans (Nat.le_trans (Nat.le_refl _) E3.1) (Nat.le_of_eq W17.size.symm)) (Nat.le_of_eq W32.size.symm)) (Nat.le_of_eq W47.size.symm)) (Nat.le_of_eq g52.symm)))).ext Em).trans K68 all0).wr W208 (Or.inr (Nat.le_trans (Nat.le_trans (Nat.le_trans (Nat.le_trans (Nat.le_trans (Nat.le_trans (Nat.le_trans (Nat.le_trans (Nat.le_trans (Nat.le_refl _) E3.1) (Nat.le_of_eq W17.size.symm)) (Nat.le_of_eq W32.size.symm)) (Nat.le_of_eq W47.size.symm)) E52.1) (Nat.le_of_eq W57.size.symm)) (Nat.le_of_eq W63.size.symm)) Em.1) gl68_0))).wr W211 (Or.inr (Nat.le_trans (Nat.le_trans (Nat.le_trans (Nat.le_trans (Nat.le_trans (Nat.le_trans (Nat.le_trans (Nat.le_trans (Nat.le_refl _) E3.1) (Nat.le_of_eq W17.size.symm)) (Nat.le_of_eq W32.size.symm)) (Nat.le_of_eq W47.size.symm)) E52.1) (Nat.le_of_eq W57.size.symm)) (Nat.le_of_eq W63.size.symm)) (Nat.le_of_eq gm.symm)))).wr W220 (Or.inr (Nat.le_trans (Nat.le_trans (Nat.le_trans (Nat.le_trans (Nat.le_trans (Nat.le_trans (Nat.le_trans (Nat.le_trans (Nat.le_trans (Nat.le_refl _) E3.1) (Nat.le_of_eq W17.size.symm)) (Nat.le_of_eq W32.size.symm)) (Nat.le_of_eq W47.size.symm)) E52.1) (Nat.le_of_eq W57.size.symm)) (Nat.le_of_eq W63.size.symm)) Em.1) gl68_0))).wr W223 (Or.inr (Nat.le_trans (Nat.le_trans (Nat.le_trans (Nat.le_trans (Nat.le_trans (Nat.le_trans (Nat.le_trans (Nat.le_trans (Nat.le_refl _) E3.1) (Nat.le_of_eq W17.size.symm)) (Nat.le_of_eq W32.size.symm)) (Nat.le_of_eq W47.size.symm)) E52.1) (Nat.le_of_eq W57.size.symm)) (Nat.le_of_eq W63.size.symm)) (Nat.le_of_eq gm.symm)))).wr W228 (Or.inl (List.mem_of_getElem? (i := 0) rfl))).wr W233 (Or.inl (List.mem_of_getElem? (i := 0) rfl))).wr W238 (Or.inl (List.mem_of_getElem? (i := 0) rfl))).wr W243 (Or.inl (List.mem_of_getElem? (i := 0) rfl))), (F245.wr W243), (((F232.other W233 (Or.inr (slot_ne (a0 := a0) (C := "com/example/sieve_for_links/sieveforlinks/VirtualLinks") (Or.inr (hw _ (List.mem_of_getElem? (i := 24) rfl))) (Or.inr (hw _ (List.mem_of_getElem? (i := 26) rfl))) (by decide) (t := (.array .int)) (t' := (.array .double)) (by decide) (by decide)))).other W238 (Or.inr (slot_ne (a0 := a0) (C := "com/example/sieve_for_links/sieveforlinks/VirtualLinks") (Or.inr (hw _ (List.mem_of_getElem? (i := 24) rfl))) (Or.inr (hw _ (List.mem_of_getElem? (i := 28) rfl))) (by decide) (t := (.array .int)) (t' := (.array .int)) (by decide) (by decide)))).other W243 (Or.inr (slot_ne (a0 := a0) (C := "com/example/sieve_for_links/sieveforlinks/VirtualLinks") (Or.inr (hw _ (List.mem_of_getElem? (i := 24) rfl))) (Or.inr (hw _ (List.mem_of_getElem? (i := 30) rfl))) (by decide) (t := (.array .int)) (t' := (.array .int)) (by decide) (by decide))))⟩)
      ·
        refine OwnW.ifcY (pc' := 243) d1_223 ((if0 _ _).trans (flt hc223_2).2.2.2) (by decide) (by decide) ?_
        refine OwnW.iinc (pc' := 246) (L' := #[.val (.ref o), .val (.ref q0), .val (.ref q1), .val (.int (2 : Int32)), .val (.ref ad3), .val (.ref ad52), .val (.ref am), .val (.ref ad68_0), .val (.int (3 : Int32))]) (d := (1 : Int32)) d1_243 rfl rfl rfl rfl ?_
        refine OwnW.goto (pc' := 212) d1_246 (by decide) (by decide) ?_
        refine OwnW.iload (pc' := 214) d1_212 rfl rfl ?_
        refine OwnW.aloadN (pc' := 215) d1_214 rfl (rfl) rfl ?_
        obtain ⟨cl248, Ar248, qk248, Sz248, Mn248, Hv248, Gf248⟩ := id F214
        refine OwnW.alen (pc' := 216) (x := (3 : Int32)) d1_215 Ar248 (len_of Sz248 Mn248) rfl ?_
        refine OwnW.icmpY (pc' := 249) d1_216 (flt (by decide)).2.1 (by decide) (by decide) ?_
        refine OwnW.aloadN (pc' := 250) d1_249 rfl (rfl) rfl ?_
        refine OwnW.aloadN (pc' := 251) d1_250 rfl (rfl) rfl ?_
        have F250 := (((((((((((F_groups.ext E3).other W17 (Or.inl (Nat.ne_of_lt lt_o_ad3))).other W32 (Or.inl (Nat.ne_of_lt lt_o_ad3))).other W47 (Or.inl (Nat.ne_of_lt lt_o_ad3))).ext E52).other W57 (Or.inl (Nat.ne_of_lt lt_o_ad52))).other W63 (Or.inl (Nat.ne_of_lt lt_o_ad52))).ext Em).keep K68 nin0).other W208 (Or.inl (Nat.ne_of_lt lt_o_ad68_0))).other W211 (Or.inl (Nat.ne_of_lt lt_o_am)))
        have F251 := (((((((((((E_o.ext E3).wr W17).wr W32).wr W47).ext E52).wr W57).wr W63).ext Em).keep K68).wr W208).wr W211)
        refine OwnW.putF (a0 := a0) (pc' := 254) d1_251 (host := "") (Or.inl (hw _ (List.mem_of_getElem? (i := 23) rfl))) Via.refl F250 F251 (Or.inr ⟨(hw _ (List.mem_of_getElem? (i := 24) rfl)), rfl, rfl⟩) (hw _ (List.mem_of_getElem? (i := 3) rfl)) (ty := (.array .int)) (by decide) rfl rfl g_o rfl ?_
        intro h249 W249
        have sz252 : n0 ≤ h249.size := (by rw [W249.size]; exact sz213)
        have F253 := F250.same W249
        refine OwnW.aloadN (pc' := 255) d1_254 rfl (rfl) rfl ?_
        refine OwnW.aloadN (pc' := 256) d1_255 rfl (rfl) rfl ?_
        have F255 := ((((((((((((F_shares.ext E3).other W17 (Or.inl (Nat.ne_of_lt lt_o_ad3))).other W32 (Or.inl (Nat.ne_of_lt lt_o_ad3))).other W47 (Or.inl (Nat.ne_of_lt lt_o_ad3))).ext E52).other W57 (Or.inl (Nat.ne_of_lt lt_o_ad52))).other W63 (Or.inl (Nat.ne_of_lt lt_o_ad52))).ext Em).keep K68 nin0).other W208 (Or.inl (Nat.ne_of_lt lt_o_ad68_0))).other W211 (Or.inl (Nat.ne_of_lt lt_o_am))).other W249 (Or.inr (slot_ne (a0 := a0) (C := "com/example/sieve_for_links/sieveforlinks/VirtualLinks") (Or.inr (hw _ (List.mem_of_getElem? (i := 26) rfl))) (Or.inr (hw _ (List.mem_of_getElem? (i := 24) rfl))) (by decide) (t := (.array .double)) (t' := (.array .int)) (by decide) (by decide))))
        have F256 := (F251.wr W249)
        refine OwnW.putF (a0 := a0) (pc' := 259) d1_256 (host := "") (Or.inl (hw _ (List.mem_of_getElem? (i := 25) rfl))) Via.refl F255 F256 (Or.inr ⟨(hw _ (List.mem_of_getElem? (i := 26) rfl)), rfl, rfl⟩) (hw _ (List.mem_of_getElem? (i := 3) rfl)) (ty := (.array .double)) (by decide) rfl rfl g_o rfl ?_
        intro h254 W254
        have sz257 : n0 ≤ h254.size := (by rw [W254.size]; exact sz252)
        have F258 := F255.same W254
        refine OwnW.aloadN (pc' := 260) d1_259 rfl (rfl) rfl ?_
        refine OwnW.aload (pc' := 262) d1_260 rfl (rfl) rfl ?_
        have F260 := (((((((((((((F_members.ext E3).other W17 (Or.inl (Nat.ne_of_lt lt_o_ad3))).other W32 (Or.inl (Nat.ne_of_lt lt_o_ad3))).other W47 (Or.inl (Nat.ne_of_lt lt_o_ad3))).ext E52).other W57 (Or.inl (Nat.ne_of_lt lt_o_ad52))).other W63 (Or.inl (Nat.ne_of_lt lt_o_ad52))).ext Em).keep K68 nin0).other W208 (Or.inl (Nat.ne_of_lt lt_o_ad68_0))).other W211 (Or.inl (Nat.ne_of_lt lt_o_am))).other W249 (Or.inr (slot_ne (a0 := a0) (C := "com/example/sieve_for_links/sieveforlinks/VirtualLinks") (Or.inr (hw _ (List.mem_of_getElem? (i := 28) rfl))) (Or.inr (hw _ (List.mem_of_getElem? (i := 24) rfl))) (by decide) (t := (.array .int)) (t' := (.array .int)) (by decide) (by decide)))).other W254 (Or.inr (slot_ne (a0 := a0) (C := "com/example/sieve_for_links/sieveforlinks/VirtualLinks") (Or.inr (hw _ (List.mem_of_getElem? (i := 28) rfl))) (Or.inr (hw _ (List.mem_of_getElem? (i := 26) rfl))) (by decide) (t := (.array .int)) (t' := (.array .double)) (by decide) (by decide))))
        have F261 := (F256.wr W254)
        refine OwnW.putF (a0 := a0) (pc' := 265) d1_262 (host := "") (Or.inl (hw _ (List.mem_of_getElem? (i := 27) rfl))) Via.refl F260 F261 (Or.inr ⟨(hw _ (List.mem_of_getElem? (i := 28) rfl)), rfl, rfl⟩) (hw _ (List.mem_of_getElem? (i := 3) rfl)) (ty := (.array .int)) (by decide) rfl rfl g_o rfl ?_
        intro h259 W259
        have sz262 : n0 ≤ h259.size := (by rw [W259.size]; exact sz257)
        have F263 := F260.same W259
        refine OwnW.aloadN (pc' := 266) d1_265 rfl (rfl) rfl ?_
        refine OwnW.aload (pc' := 268) d1_266 rfl (rfl) rfl ?_
        have F265 := ((((((((((((((F_memberStarts.ext E3).other W17 (Or.inl (Nat.ne_of_lt lt_o_ad3))).other W32 (Or.inl (Nat.ne_of_lt lt_o_ad3))).other W47 (Or.inl (Nat.ne_of_lt lt_o_ad3))).ext E52).other W57 (Or.inl (Nat.ne_of_lt lt_o_ad52))).other W63 (Or.inl (Nat.ne_of_lt lt_o_ad52))).ext Em).keep K68 nin0).other W208 (Or.inl (Nat.ne_of_lt lt_o_ad68_0))).other W211 (Or.inl (Nat.ne_of_lt lt_o_am))).other W249 (Or.inr (slot_ne (a0 := a0) (C := "com/example/sieve_for_links/sieveforlinks/VirtualLinks") (Or.inr (hw _ (List.mem_of_getElem? (i := 30) rfl))) (Or.inr (hw _ (List.mem_of_getElem? (i := 24) rfl))) (by decide) (t := (.array .int)) (t' := (.array .int)) (by decide) (by decide)))).other W254 (Or.inr (slot_ne (a0 := a0) (C := "com/example/sieve_for_links/sieveforlinks/VirtualLinks") (Or.inr (hw _ (List.mem_of_getElem? (i := 30) rfl))) (Or.inr (hw _ (List.mem_of_getElem? (i := 26) rfl))) (by decide) (t := (.array .int)) (t' := (.array .double)) (by decide) (by decide)))).other W259 (Or.inr (slot_ne (a0 := a0) (C := "com/example/sieve_for_links/sieveforlinks/VirtualLinks") (Or.inr (hw _ (List.mem_of_getElem? (i := 30) rfl))) (Or.inr (hw _ (List.mem_of_getElem? (i := 28) rfl))) (by decide) (t := (.array .int)) (t' := (.array .int)) (by decide) (by decide))))
        have F266 := (F261.wr W259)
        refine OwnW.putF (a0 := a0) (pc' := 271) d1_268 (host := "") (Or.inl (hw _ (List.mem_of_getElem? (i := 29) rfl))) Via.refl F265 F266 (Or.inr ⟨(hw _ (List.mem_of_getElem? (i := 30) rfl)), rfl, rfl⟩) (hw _ (List.mem_of_getElem? (i := 3) rfl)) (ty := (.array .int)) (by decide) rfl rfl g_o rfl ?_
        intro h264 W264
        have sz267 : n0 ≤ h264.size := (by rw [W264.size]; exact sz262)
        have F268 := F265.same W264
        exact OwnW.ret0 d1_271 rfl (by decide) (by decide) (⟨rfl, ((((((((((((((((Keep.refl h0 [o]).ext E3).wr W17 (Or.inr (Nat.le_trans (Nat.le_refl _) (Nat.le_of_eq g3.symm)))).wr W32 (Or.inr (Nat.le_trans (Nat.le_refl _) (Nat.le_of_eq g3.symm)))).wr W47 (Or.inr (Nat.le_trans (Nat.le_refl _) (Nat.le_of_eq g3.symm)))).ext E52).wr W57 (Or.inr (Nat.le_trans (Nat.le_trans (Nat.le_trans (Nat.le_trans (Nat.le_trans (Nat.le_refl _) E3.1) (Nat.le_of_eq W17.size.symm)) (Nat.le_of_eq W32.size.symm)) (Nat.le_of_eq W47.size.symm)) (Nat.le_of_eq g52.symm)))).wr W63 (Or.inr (Nat.le_trans (Nat.le_trans (Nat.le_trans (Nat.le_trans (Nat.le_trans (Nat.le_refl _) E3.1) (Nat.le_of_eq W17.size.symm)) (Nat.le_of_eq W32.size.symm)) (Nat.le_of_eq W47.size.symm)) (Nat.le_of_eq g52.symm)))).ext Em).trans K68 all0).wr W208 (Or.inr (Nat.le_trans (Nat.le_trans (Nat.le_trans (Nat.le_trans (Nat.le_trans (Nat.le_trans (Nat.le_trans (Nat.le_trans (Nat.le_trans (Nat.le_refl _) E3.1) (Nat.le_of_eq W17.size.symm)) (Nat.le_of_eq W32.size.symm)) (Nat.le_of_eq W47.size.symm)) E52.1) (Nat.le_of_eq W57.size.symm)) (Nat.le_of_eq W63.size.symm)) Em.1) gl68_0))).wr W211 (Or.inr (Nat.le_trans (Nat.le_trans (Nat.le_trans (Nat.le_trans (Nat.le_trans (Nat.le_trans (Nat.le_trans (Nat.le_trans (Nat.le_refl _) E3.1) (Nat.le_of_eq W17.size.symm)) (Nat.le_of_eq W32.size.symm)) (Nat.le_of_eq W47.size.symm)) E52.1) (Nat.le_of_eq W57.size.symm)) (Nat.le_of_eq W63.size.symm)) (Nat.le_of_eq gm.symm)))).wr W249 (Or.inl (List.mem_of_getElem? (i := 0) rfl))).wr W254 (Or.inl (List.mem_of_getElem? (i := 0) rfl))).wr W259 (Or.inl (List.mem_of_getElem? (i := 0) rfl))).wr W264 (Or.inl (List.mem_of_getElem? (i := 0) rfl))), (F266.wr W264), (((F253.other W254 (Or.inr (slot_ne (a0 := a0) (C := "com/example/sieve_for_links/sieveforlinks/VirtualLinks") (Or.inr (hw _ (List.mem_of_getElem? (i := 24) rfl))) (Or.inr (hw _ (List.mem_of_getElem? (i := 26) rfl))) (by decide) (t := (.array .int)) (t' := (.array .double)) (by decide) (by decide)))).other W259 (Or.inr (slot_ne (a0 := a0) (C := "com/example/sieve_for_links/sieveforlinks/VirtualLinks") (Or.inr (hw _ (List.mem_of_getElem? (i := 24) rfl))) (Or.inr (hw _ (List.mem_of_getElem? (i := 28) rfl))) (by decide) (t := (.array .int)) (t' := (.array .int)) (by decide) (by decide)))).other W264 (Or.inr (slot_ne (a0 := a0) (C := "com/example/sieve_for_links/sieveforlinks/VirtualLinks") (Or.inr (hw _ (List.mem_of_getElem? (i := 24) rfl))) (Or.inr (hw _ (List.mem_of_getElem? (i := 30) rfl))) (by decide) (t := (.array .int)) (t' := (.array .int)) (by decide) (by decide))))⟩)
    ·
      refine OwnW.ifcY (pc' := 243) d1_223 ((if0 _ _).trans (flt hc223_1).2.2.2) (by decide) (by decide) ?_
      refine OwnW.iinc (pc' := 246) (L' := #[.val (.ref o), .val (.ref q0), .val (.ref q1), .val (.int (2 : Int32)), .val (.ref ad3), .val (.ref ad52), .val (.ref am), .val (.ref ad68_0), .val (.int (2 : Int32))]) (d := (1 : Int32)) d1_243 rfl rfl rfl rfl ?_
      refine OwnW.goto (pc' := 212) d1_246 (by decide) (by decide) ?_
      refine OwnW.iload (pc' := 214) d1_212 rfl rfl ?_
      refine OwnW.aloadN (pc' := 215) d1_214 rfl (rfl) rfl ?_
      obtain ⟨cl269, Ar269, qk269, Sz269, Mn269, Hv269, Gf269⟩ := id F70
      refine OwnW.alen (pc' := 216) (x := (3 : Int32)) d1_215 Ar269 (len_of Sz269 Mn269) rfl ?_
      refine OwnW.icmpN (pc' := 219) d1_216 (tlt (by decide)).2.1 rfl ?_
      refine OwnW.aloadN (pc' := 220) d1_219 rfl (rfl) rfl ?_
      refine OwnW.iload (pc' := 222) d1_220 rfl rfl ?_
      obtain ⟨cl270, Ar270, qk270, Sz270, Mn270, Hv270, Gf270⟩ := id F70
      refine OwnW.iaload (pc' := 223) (v := (.int g2)) d1_222 Ar270 (inb_of Sz270 ⟨by decide, by decide⟩) (Hv270.at (inb_of Sz270 ⟨by decide, by decide⟩) rfl) rfl ?_
      by_cases hc223_2 : (0 : Int32) < g2
      ·
        refine OwnW.ifcN (pc' := 226) d1_223 ((if0 _ _).trans (tlt hc223_2).2.2.2) rfl ?_
        refine OwnW.aload (pc' := 228) d1_226 rfl (rfl) rfl ?_
        refine OwnW.aload (pc' := 230) d1_228 rfl (rfl) rfl ?_
        refine OwnW.aloadN (pc' := 231) d1_230 rfl (rfl) rfl ?_
        refine OwnW.iload (pc' := 233) d1_231 rfl rfl ?_
        obtain ⟨cl271, Ar271, qk271, Sz271, Mn271, Hv271, Gf271⟩ := id F70
        refine OwnW.iaload (pc' := 234) (v := (.int g2)) d1_233 Ar271 (inb_of Sz271 ⟨by decide, by decide⟩) (Hv271.at (inb_of Sz271 ⟨by decide, by decide⟩) rfl) rfl ?_
        refine OwnW.dup2 (pc' := 235) d1_234 rfl rfl rfl ?_
        obtain ⟨C272, hC272⟩ : ∃ z : List Int32, z = [(C64.getD 0 0), (C64.getD 1 0), (C64.getD 2 0)] := ⟨_, rfl⟩
        have VC272 : Arv Z h68 ad68_0 kc68_0 .int (3 : Int32) (C272.map Value.int) (.int (0 : Int32)) := by rw [hC272]; exact Fc68_0
        have lC272 : C272.length = 3 := by rw [hC272]; rfl
        obtain ⟨cl273, Ar273, qk273, Sz273, Mn273, Hv273, Gf273⟩ := id VC272
        refine OwnW.iaload (pc' := 236) (v := .int (C272.getD g2.toNatClampNeg 0)) d1_235 Ar273 (inb_of Sz273 (own_bd hg2)) (Hv273.at (inb_of Sz273 (own_bd hg2)) (own_gd C272 g2.toNatClampNeg)) rfl ?_
        show GoB13 l Z n0 (Q13 Z o q0 q1 kg ks g0 g1 g2 s0 s1 s2 h0) h68 4 13 236 #[.val (.ref o), .val (.ref q0), .val (.ref q1), .val (.int (2 : Int32)), .val (.ref ad3), .val (.ref ad52), .val (.ref am), .val (.ref ad68_0), .val (.int (2 : Int32))] [(.int (C272.getD g2.toNatClampNeg 0)), (.int g2), (.ref ad68_0), (.ref am)]
        refine OwnW.dupX2 (pc' := 237) d1_236 rfl ?_
        refine OwnW.iconst (pc' := 238) (v := (1 : Int32)) d1_237 rfl rfl ?_
        refine OwnW.iadd (pc' := 239) d1_238 rfl ?_
        obtain ⟨cl274, Ar274, qk274, Sz274, Mn274, Hv274, Gf274⟩ := id VC272
        refine OwnW.stI (pc' := 240) d1_239 Ar274 (inb_of Sz274 (own_bd hg2)) ge_ad68_0 rfl ?_
        intro h274 W274
        have sz276 : n0 ≤ h274.size := (by rw [W274.size]; exact sz69)
        obtain ⟨C275, hC275⟩ : ∃ z : List Int32, z = (C272.set g2.toNatClampNeg ((C272.getD g2.toNatClampNeg 0) + (1 : Int32))) := ⟨_, rfl⟩
        have VC275 : Arv Z h274 ad68_0 kc68_0 .int (3 : Int32) (C275.map Value.int) (.int (0 : Int32)) := by rw [hC275, List.map_set]; exact Arv.set Ar274 qk274 Sz274 Mn274 Hv274 Gf274 rfl W274 g2.toNatClampNeg rfl (own_ln (z := (3 : Int32)) lC272 (own_bd hg2))
        have lC275 : C275.length = 3 := by rw [hC275, List.length_set]; exact lC272
        show GoB13 l Z n0 (Q13 Z o q0 q1 kg ks g0 g1 g2 s0 s1 s2 h0) h274 4 13 240 #[.val (.ref o), .val (.ref q0), .val (.ref q1), .val (.int (2 : Int32)), .val (.ref ad3), .val (.ref ad52), .val (.ref am), .val (.ref ad68_0), .val (.int (2 : Int32))] [(.int (C272.getD g2.toNatClampNeg 0)), (.ref am)]
        refine OwnW.iload (pc' := 242) d1_240 rfl rfl ?_
        have F278 := ((Ym.keep K68 nin0).other W274 (Nat.ne_of_lt lt_am_ad68_0))
        obtain ⟨cl277, Ar277, Sz277⟩ := id F278
        refine OwnW.stI (pc' := 243) d1_242 Ar277 (inb_of Sz277 (own_mb3_6 hg0 hg1 hg2 hC15 hC18 hC33 hC48 hC53 hC58 hC64 hC272 hC275 htt hc223 hc223_1 hc223_2)) ge_am rfl ?_
        intro h277 W277
        have sz279 : n0 ≤ h277.size := (by rw [W277.size]; exact sz276)
        have Y277 : Wk Z h277 am tt := Wk.same ⟨cl277, Ar277, Sz277⟩ W277
        show GoB13 l Z n0 (Q13 Z o q0 q1 kg ks g0 g1 g2 s0 s1 s2 h0) h277 4 13 243 #[.val (.ref o), .val (.ref q0), .val (.ref q1), .val (.int (2 : Int32)), .val (.ref ad3), .val (.ref ad52), .val (.ref am), .val (.ref ad68_0), .val (.int (2 : Int32))] []
        refine OwnW.iinc (pc' := 246) (L' := #[.val (.ref o), .val (.ref q0), .val (.ref q1), .val (.int (2 : Int32)), .val (.ref ad3), .val (.ref ad52), .val (.ref am), .val (.ref ad68_0), .val (.int (3 : Int32))]) (d := (1 : Int32)) d1_243 rfl rfl rfl rfl ?_
        refine OwnW.goto (pc' := 212) d1_246 (by decide) (by decide) ?_
        refine OwnW.iload (pc' := 214) d1_212 rfl rfl ?_
        refine OwnW.aloadN (pc' := 215) d1_214 rfl (rfl) rfl ?_
        have F280 := ((F70.other W274 (Nat.ne_of_lt lt_q0_ad68_0)).other W277 (Nat.ne_of_lt lt_q0_am))
        obtain ⟨cl281, Ar281, qk281, Sz281, Mn281, Hv281, Gf281⟩ := id F280
        refine OwnW.alen (pc' := 216) (x := (3 : Int32)) d1_215 Ar281 (len_of Sz281 Mn281) rfl ?_
        refine OwnW.icmpY (pc' := 249) d1_216 (flt (by decide)).2.1 (by decide) (by decide) ?_
        refine OwnW.aloadN (pc' := 250) d1_249 rfl (rfl) rfl ?_
        refine OwnW.aloadN (pc' := 251) d1_250 rfl (rfl) rfl ?_
        have F283 := (((((((((((F_groups.ext E3).other W17 (Or.inl (Nat.ne_of_lt lt_o_ad3))).other W32 (Or.inl (Nat.ne_of_lt lt_o_ad3))).other W47 (Or.inl (Nat.ne_of_lt lt_o_ad3))).ext E52).other W57 (Or.inl (Nat.ne_of_lt lt_o_ad52))).other W63 (Or.inl (Nat.ne_of_lt lt_o_ad52))).ext Em).keep K68 nin0).other W274 (Or.inl (Nat.ne_of_lt lt_o_ad68_0))).other W277 (Or.inl (Nat.ne_of_lt lt_o_am)))
        have F284 := (((((((((((E_o.ext E3).wr W17).wr W32).wr W47).ext E52).wr W57).wr W63).ext Em).keep K68).wr W274).wr W277)
        refine OwnW.putF (a0 := a0) (pc' := 254) d1_251 (host := "") (Or.inl (hw _ (List.mem_of_getElem? (i := 23) rfl))) Via.refl F283 F284 (Or.inr ⟨(hw _ (List.mem_of_getElem? (i := 24) rfl)), rfl, rfl⟩) (hw _ (List.mem_of_getElem? (i := 3) rfl)) (ty := (.array .int)) (by decide) rfl rfl g_o rfl ?_
        intro h282 W282
        have sz285 : n0 ≤ h282.size := (by rw [W282.size]; exact sz279)
        have F286 := F283.same W282
        refine OwnW.aloadN (pc' := 255) d1_254 rfl (rfl) rfl ?_
        refine OwnW.aloadN (pc' := 256) d1_255 rfl (rfl) rfl ?_
        have F288 := ((((((((((((F_shares.ext E3).other W17 (Or.inl (Nat.ne_of_lt lt_o_ad3))).other W32 (Or.inl (Nat.ne_of_lt lt_o_ad3))).other W47 (Or.inl (Nat.ne_of_lt lt_o_ad3))).ext E52).other W57 (Or.inl (Nat.ne_of_lt lt_o_ad52))).other W63 (Or.inl (Nat.ne_of_lt lt_o_ad52))).ext Em).keep K68 nin0).other W274 (Or.inl (Nat.ne_of_lt lt_o_ad68_0))).other W277 (Or.inl (Nat.ne_of_lt lt_o_am))).other W282 (Or.inr (slot_ne (a0 := a0) (C := "com/example/sieve_for_links/sieveforlinks/VirtualLinks") (Or.inr (hw _ (List.mem_of_getElem? (i := 26) rfl))) (Or.inr (hw _ (List.mem_of_getElem? (i := 24) rfl))) (by decide) (t := (.array .double)) (t' := (.array .int)) (by decide) (by decide))))
        have F289 := (F284.wr W282)
        refine OwnW.putF (a0 := a0) (pc' := 259) d1_256 (host := "") (Or.inl (hw _ (List.mem_of_getElem? (i := 25) rfl))) Via.refl F288 F289 (Or.inr ⟨(hw _ (List.mem_of_getElem? (i := 26) rfl)), rfl, rfl⟩) (hw _ (List.mem_of_getElem? (i := 3) rfl)) (ty := (.array .double)) (by decide) rfl rfl g_o rfl ?_
        intro h287 W287
        have sz290 : n0 ≤ h287.size := (by rw [W287.size]; exact sz285)
        have F291 := F288.same W287
        refine OwnW.aloadN (pc' := 260) d1_259 rfl (rfl) rfl ?_
        refine OwnW.aload (pc' := 262) d1_260 rfl (rfl) rfl ?_
        have F293 := (((((((((((((F_members.ext E3).other W17 (Or.inl (Nat.ne_of_lt lt_o_ad3))).other W32 (Or.inl (Nat.ne_of_lt lt_o_ad3))).other W47 (Or.inl (Nat.ne_of_lt lt_o_ad3))).ext E52).other W57 (Or.inl (Nat.ne_of_lt lt_o_ad52))).other W63 (Or.inl (Nat.ne_of_lt lt_o_ad52))).ext Em).keep K68 nin0).other W274 (Or.inl (Nat.ne_of_lt lt_o_ad68_0))).other W277 (Or.inl (Nat.ne_of_lt lt_o_am))).other W282 (Or.inr (slot_ne (a0 := a0) (C := "com/example/sieve_for_links/sieveforlinks/VirtualLinks") (Or.inr (hw _ (List.mem_of_getElem? (i := 28) rfl))) (Or.inr (hw _ (List.mem_of_getElem? (i := 24) rfl))) (by decide) (t := (.array .int)) (t' := (.array .int)) (by decide) (by decide)))).other W287 (Or.inr (slot_ne (a0 := a0) (C := "com/example/sieve_for_links/sieveforlinks/VirtualLinks") (Or.inr (hw _ (List.mem_of_getElem? (i := 28) rfl))) (Or.inr (hw _ (List.mem_of_getElem? (i := 26) rfl))) (by decide) (t := (.array .int)) (t' := (.array .double)) (by decide) (by decide))))
        have F294 := (F289.wr W287)
        refine OwnW.putF (a0 := a0) (pc' := 265) d1_262 (host := "") (Or.inl (hw _ (List.mem_of_getElem? (i := 27) rfl))) Via.refl F293 F294 (Or.inr ⟨(hw _ (List.mem_of_getElem? (i := 28) rfl)), rfl, rfl⟩) (hw _ (List.mem_of_getElem? (i := 3) rfl)) (ty := (.array .int)) (by decide) rfl rfl g_o rfl ?_
        intro h292 W292
        have sz295 : n0 ≤ h292.size := (by rw [W292.size]; exact sz290)
        have F296 := F293.same W292
        refine OwnW.aloadN (pc' := 266) d1_265 rfl (rfl) rfl ?_
        refine OwnW.aload (pc' := 268) d1_266 rfl (rfl) rfl ?_
        have F298 := ((((((((((((((F_memberStarts.ext E3).other W17 (Or.inl (Nat.ne_of_lt lt_o_ad3))).other W32 (Or.inl (Nat.ne_of_lt lt_o_ad3))).other W47 (Or.inl (Nat.ne_of_lt lt_o_ad3))).ext E52).other W57 (Or.inl (Nat.ne_of_lt lt_o_ad52))).other W63 (Or.inl (Nat.ne_of_lt lt_o_ad52))).ext Em).keep K68 nin0).other W274 (Or.inl (Nat.ne_of_lt lt_o_ad68_0))).other W277 (Or.inl (Nat.ne_of_lt lt_o_am))).other W282 (Or.inr (slot_ne (a0 := a0) (C := "com/example/sieve_for_links/sieveforlinks/VirtualLinks") (Or.inr (hw _ (List.mem_of_getElem? (i := 30) rfl))) (Or.inr (hw _ (List.mem_of_getElem? (i := 24) rfl))) (by decide) (t := (.array .int)) (t' := (.array .int)) (by decide) (by decide)))).other W287 (Or.inr (slot_ne (a0 := a0) (C := "com/example/sieve_for_links/sieveforlinks/VirtualLinks") (Or.inr (hw _ (List.mem_of_getElem? (i := 30) rfl))) (Or.inr (hw _ (List.mem_of_getElem? (i := 26) rfl))) (by decide) (t := (.array .int)) (t' := (.array .double)) (by decide) (by decide)))).other W292 (Or.inr (slot_ne (a0 := a0) (C := "com/example/sieve_for_links/sieveforlinks/VirtualLinks") (Or.inr (hw _ (List.mem_of_getElem? (i := 30) rfl))) (Or.inr (hw _ (List.mem_of_getElem? (i := 28) rfl))) (by decide) (t := (.array .int)) (t' := (.array .int)) (by decide) (by decide))))
        have F299 := (F294.wr W292)
        refine OwnW.putF (a0 := a0) (pc' := 271) d1_268 (host := "") (Or.inl (hw _ (List.mem_of_getElem? (i := 29) rfl))) Via.refl F298 F299 (Or.inr ⟨(hw _ (List.mem_of_getElem? (i := 30) rfl)), rfl, rfl⟩) (hw _ (List.mem_of_getElem? (i := 3) rfl)) (ty := (.array .int)) (by decide) rfl rfl g_o rfl ?_
        intro h297 W297
        have sz300 : n0 ≤ h297.size := (by rw [W297.size]; exact sz295)
        have F301 := F298.same W297
        exact OwnW.ret0 d1_271 rfl (by decide) (by decide) (⟨rfl, ((((((((((((((((Keep.refl h0 [o]).ext E3).wr W17 (Or.inr (Nat.le_trans (Nat.le_refl _) (Nat.le_of_eq g3.symm)))).wr W32 (Or.inr (Nat.le_trans (Nat.le_refl _) (Nat.le_of_eq g3.symm)))).wr W47 (Or.inr (Nat.le_trans (Nat.le_refl _) (Nat.le_of_eq g3.symm)))).ext E52).wr W57 (Or.inr (Nat.le_trans (Nat.le_trans (Nat.le_trans (Nat.le_trans (Nat.le_trans (Nat.le_refl _) E3.1) (Nat.le_of_eq W17.size.symm)) (Nat.le_of_eq W32.size.symm)) (Nat.le_of_eq W47.size.symm)) (Nat.le_of_eq g52.symm)))).wr W63 (Or.inr (Nat.le_trans (Nat.le_trans (Nat.le_trans (Nat.le_trans (Nat.le_trans (Nat.le_refl _) E3.1) (Nat.le_of_eq W17.size.symm)) (Nat.le_of_eq W32.size.symm)) (Nat.le_of_eq W47.size.symm)) (Nat.le_of_eq g52.symm)))).ext Em).trans K68 all0).wr W274 (Or.inr (Nat.le_trans (Nat.le_trans (Nat.le_trans (Nat.le_trans (Nat.le_trans (Nat.le_trans (Nat.le_trans (Nat.le_trans (Nat.le_trans (Nat.le_refl _) E3.1) (Nat.le_of_eq W17.size.symm)) (Nat.le_of_eq W32.size.symm)) (Nat.le_of_eq W47.size.symm)) E52.1) (Nat.le_of_eq W57.size.symm)) (Nat.le_of_eq W63.size.symm)) Em.1) gl68_0))).wr W277 (Or.inr (Nat.le_trans (Nat.le_trans (Nat.le_trans (Nat.le_trans (Nat.le_trans (Nat.le_trans (Nat.le_trans (Nat.le_trans (Nat.le_refl _) E3.1) (Nat.le_of_eq W17.size.symm)) (Nat.le_of_eq W32.size.symm)) (Nat.le_of_eq W47.size.symm)) E52.1) (Nat.le_of_eq W57.size.symm)) (Nat.le_of_eq W63.size.symm)) (Nat.le_of_eq gm.symm)))).wr W282 (Or.inl (List.mem_of_getElem? (i := 0) rfl))).wr W287 (Or.inl (List.mem_of_getElem? (i := 0) rfl))).wr W292 (Or.inl (List.mem_of_getElem? (i := 0) rfl))).wr W297 (Or.inl (List.mem_of_getElem? (i := 0) rfl))), (F299.wr W297), (((F286.other W287 (Or.inr (slot_ne (a0 := a0) (C := "com/example/sieve_for_links/sieveforlinks/VirtualLinks") (Or.inr (hw _ (List.mem_of_getElem? (i := 24) rfl))) (Or.inr (hw _ (List.mem_of_getElem? (i := 26) rfl))) (by decide) (t := (.array .int)) (t' := (.array .double)) (by decide) (by decide)))).other W292 (Or.inr (slot_ne (a0 := a0) (C := "com/example/sieve_for_links/sieveforlinks/VirtualLinks") (Or.inr (hw _ (List.mem_of_getElem? (i := 24) rfl))) (Or.inr (hw _ (List.mem_of_getElem? (i := 28) rfl))) (by decide) (t := (.array .int)) (t' := (.array .int)) (by decide) (by decide)))).other W297 (Or.inr (slot_ne (a0 := a0) (C := "com/example/sieve_for_links/sieveforlinks/VirtualLinks") (Or.inr (hw _ (List.mem_of_getElem? (i := 24) rfl))) (Or.inr (hw _ (List.mem_of_getElem? (i := 30) rfl))) (by decide) (t := (.array .int)) (t' := (.array .int)) (by decide) (by decide))))⟩)
      ·
        refine OwnW.ifcY (pc' := 243) d1_223 ((if0 _ _).trans (flt hc223_2).2.2.2) (by decide) (by decide) ?_
        refine OwnW.iinc (pc' := 246) (L' := #[.val (.ref o), .val (.ref q0), .val (.ref q1), .val (.int (2 : Int32)), .val (.ref ad3), .val (.ref ad52), .val (.ref am), .val (.ref ad68_0), .val (.int (3 : Int32))]) (d := (1 : Int32)) d1_243 rfl rfl rfl rfl ?_
        refine OwnW.goto (pc' := 212) d1_246 (by decide) (by decide) ?_
        refine OwnW.iload (pc' := 214) d1_212 rfl rfl ?_
        refine OwnW.aloadN (pc' := 215) d1_214 rfl (rfl) rfl ?_
        obtain ⟨cl302, Ar302, qk302, Sz302, Mn302, Hv302, Gf302⟩ := id F70
        refine OwnW.alen (pc' := 216) (x := (3 : Int32)) d1_215 Ar302 (len_of Sz302 Mn302) rfl ?_
        refine OwnW.icmpY (pc' := 249) d1_216 (flt (by decide)).2.1 (by decide) (by decide) ?_
        refine OwnW.aloadN (pc' := 250) d1_249 rfl (rfl) rfl ?_
        refine OwnW.aloadN (pc' := 251) d1_250 rfl (rfl) rfl ?_
        have F304 := (((((((((F_groups.ext E3).other W17 (Or.inl (Nat.ne_of_lt lt_o_ad3))).other W32 (Or.inl (Nat.ne_of_lt lt_o_ad3))).other W47 (Or.inl (Nat.ne_of_lt lt_o_ad3))).ext E52).other W57 (Or.inl (Nat.ne_of_lt lt_o_ad52))).other W63 (Or.inl (Nat.ne_of_lt lt_o_ad52))).ext Em).keep K68 nin0)
        have F305 := (((((((((E_o.ext E3).wr W17).wr W32).wr W47).ext E52).wr W57).wr W63).ext Em).keep K68)
        refine OwnW.putF (a0 := a0) (pc' := 254) d1_251 (host := "") (Or.inl (hw _ (List.mem_of_getElem? (i := 23) rfl))) Via.refl F304 F305 (Or.inr ⟨(hw _ (List.mem_of_getElem? (i := 24) rfl)), rfl, rfl⟩) (hw _ (List.mem_of_getElem? (i := 3) rfl)) (ty := (.array .int)) (by decide) rfl rfl g_o rfl ?_
        intro h303 W303
        have sz306 : n0 ≤ h303.size := (by rw [W303.size]; exact sz69)
        have F307 := F304.same W303
        refine OwnW.aloadN (pc' := 255) d1_254 rfl (rfl) rfl ?_
        refine OwnW.aloadN (pc' := 256) d1_255 rfl (rfl) rfl ?_
        have F309 := ((((((((((F_shares.ext E3).other W17 (Or.inl (Nat.ne_of_lt lt_o_ad3))).other W32 (Or.inl (Nat.ne_of_lt lt_o_ad3))).other W47 (Or.inl (Nat.ne_of_lt lt_o_ad3))).ext E52).other W57 (Or.inl (Nat.ne_of_lt lt_o_ad52))).other W63 (Or.inl (Nat.ne_of_lt lt_o_ad52))).ext Em).keep K68 nin0).other W303 (Or.inr (slot_ne (a0 := a0) (C := "com/example/sieve_for_links/sieveforlinks/VirtualLinks") (Or.inr (hw _ (List.mem_of_getElem? (i := 26) rfl))) (Or.inr (hw _ (List.mem_of_getElem? (i := 24) rfl))) (by decide) (t := (.array .double)) (t' := (.array .int)) (by decide) (by decide))))
        have F310 := (F305.wr W303)
        refine OwnW.putF (a0 := a0) (pc' := 259) d1_256 (host := "") (Or.inl (hw _ (List.mem_of_getElem? (i := 25) rfl))) Via.refl F309 F310 (Or.inr ⟨(hw _ (List.mem_of_getElem? (i := 26) rfl)), rfl, rfl⟩) (hw _ (List.mem_of_getElem? (i := 3) rfl)) (ty := (.array .double)) (by decide) rfl rfl g_o rfl ?_
        intro h308 W308
        have sz311 : n0 ≤ h308.size := (by rw [W308.size]; exact sz306)
        have F312 := F309.same W308
        refine OwnW.aloadN (pc' := 260) d1_259 rfl (rfl) rfl ?_
        refine OwnW.aload (pc' := 262) d1_260 rfl (rfl) rfl ?_
        have F314 := (((((((((((F_members.ext E3).other W17 (Or.inl (Nat.ne_of_lt lt_o_ad3))).other W32 (Or.inl (Nat.ne_of_lt lt_o_ad3))).other W47 (Or.inl (Nat.ne_of_lt lt_o_ad3))).ext E52).other W57 (Or.inl (Nat.ne_of_lt lt_o_ad52))).other W63 (Or.inl (Nat.ne_of_lt lt_o_ad52))).ext Em).keep K68 nin0).other W303 (Or.inr (slot_ne (a0 := a0) (C := "com/example/sieve_for_links/sieveforlinks/VirtualLinks") (Or.inr (hw _ (List.mem_of_getElem? (i := 28) rfl))) (Or.inr (hw _ (List.mem_of_getElem? (i := 24) rfl))) (by decide) (t := (.array .int)) (t' := (.array .int)) (by decide) (by decide)))).other W308 (Or.inr (slot_ne (a0 := a0) (C := "com/example/sieve_for_links/sieveforlinks/VirtualLinks") (Or.inr (hw _ (List.mem_of_getElem? (i := 28) rfl))) (Or.inr (hw _ (List.mem_of_getElem? (i := 26) rfl))) (by decide) (t := (.array .int)) (t' := (.array .double)) (by decide) (by decide))))
        have F315 := (F310.wr W308)
        refine OwnW.putF (a0 := a0) (pc' := 265) d1_262 (host := "") (Or.inl (hw _ (List.mem_of_getElem? (i := 27) rfl))) Via.refl F314 F315 (Or.inr ⟨(hw _ (List.mem_of_getElem? (i := 28) rfl)), rfl, rfl⟩) (hw _ (List.mem_of_getElem? (i := 3) rfl)) (ty := (.array .int)) (by decide) rfl rfl g_o rfl ?_
        intro h313 W313
        have sz316 : n0 ≤ h313.size := (by rw [W313.size]; exact sz311)
        have F317 := F314.same W313
        refine OwnW.aloadN (pc' := 266) d1_265 rfl (rfl) rfl ?_
        refine OwnW.aload (pc' := 268) d1_266 rfl (rfl) rfl ?_
        have F319 := ((((((((((((F_memberStarts.ext E3).other W17 (Or.inl (Nat.ne_of_lt lt_o_ad3))).other W32 (Or.inl (Nat.ne_of_lt lt_o_ad3))).other W47 (Or.inl (Nat.ne_of_lt lt_o_ad3))).ext E52).other W57 (Or.inl (Nat.ne_of_lt lt_o_ad52))).other W63 (Or.inl (Nat.ne_of_lt lt_o_ad52))).ext Em).keep K68 nin0).other W303 (Or.inr (slot_ne (a0 := a0) (C := "com/example/sieve_for_links/sieveforlinks/VirtualLinks") (Or.inr (hw _ (List.mem_of_getElem? (i := 30) rfl))) (Or.inr (hw _ (List.mem_of_getElem? (i := 24) rfl))) (by decide) (t := (.array .int)) (t' := (.array .int)) (by decide) (by decide)))).other W308 (Or.inr (slot_ne (a0 := a0) (C := "com/example/sieve_for_links/sieveforlinks/VirtualLinks") (Or.inr (hw _ (List.mem_of_getElem? (i := 30) rfl))) (Or.inr (hw _ (List.mem_of_getElem? (i := 26) rfl))) (by decide) (t := (.array .int)) (t' := (.array .double)) (by decide) (by decide)))).other W313 (Or.inr (slot_ne (a0 := a0) (C := "com/example/sieve_for_links/sieveforlinks/VirtualLinks") (Or.inr (hw _ (List.mem_of_getElem? (i := 30) rfl))) (Or.inr (hw _ (List.mem_of_getElem? (i := 28) rfl))) (by decide) (t := (.array .int)) (t' := (.array .int)) (by decide) (by decide))))
        have F320 := (F315.wr W313)
        refine OwnW.putF (a0 := a0) (pc' := 271) d1_268 (host := "") (Or.inl (hw _ (List.mem_of_getElem? (i := 29) rfl))) Via.refl F319 F320 (Or.inr ⟨(hw _ (List.mem_of_getElem? (i := 30) rfl)), rfl, rfl⟩) (hw _ (List.mem_of_getElem? (i := 3) rfl)) (ty := (.array .int)) (by decide) rfl rfl g_o rfl ?_
        intro h318 W318
        have sz321 : n0 ≤ h318.size := (by rw [W318.size]; exact sz316)
        have F322 := F319.same W318
        exact OwnW.ret0 d1_271 rfl (by decide) (by decide) (⟨rfl, ((((((((((((((Keep.refl h0 [o]).ext E3).wr W17 (Or.inr (Nat.le_trans (Nat.le_refl _) (Nat.le_of_eq g3.symm)))).wr W32 (Or.inr (Nat.le_trans (Nat.le_refl _) (Nat.le_of_eq g3.symm)))).wr W47 (Or.inr (Nat.le_trans (Nat.le_refl _) (Nat.le_of_eq g3.symm)))).ext E52).wr W57 (Or.inr (Nat.le_trans (Nat.le_trans (Nat.le_trans (Nat.le_trans (Nat.le_trans (Nat.le_refl _) E3.1) (Nat.le_of_eq W17.size.symm)) (Nat.le_of_eq W32.size.symm)) (Nat.le_of_eq W47.size.symm)) (Nat.le_of_eq g52.symm)))).wr W63 (Or.inr (Nat.le_trans (Nat.le_trans (Nat.le_trans (Nat.le_trans (Nat.le_trans (Nat.le_refl _) E3.1) (Nat.le_of_eq W17.size.symm)) (Nat.le_of_eq W32.size.symm)) (Nat.le_of_eq W47.size.symm)) (Nat.le_of_eq g52.symm)))).ext Em).trans K68 all0).wr W303 (Or.inl (List.mem_of_getElem? (i := 0) rfl))).wr W308 (Or.inl (List.mem_of_getElem? (i := 0) rfl))).wr W313 (Or.inl (List.mem_of_getElem? (i := 0) rfl))).wr W318 (Or.inl (List.mem_of_getElem? (i := 0) rfl))), (F320.wr W318), (((F307.other W308 (Or.inr (slot_ne (a0 := a0) (C := "com/example/sieve_for_links/sieveforlinks/VirtualLinks") (Or.inr (hw _ (List.mem_of_getElem? (i := 24) rfl))) (Or.inr (hw _ (List.mem_of_getElem? (i := 26) rfl))) (by decide) (t := (.array .int)) (t' := (.array .double)) (by decide) (by decide)))).other W313 (Or.inr (slot_ne (a0 := a0) (C := "com/example/sieve_for_links/sieveforlinks/VirtualLinks") (Or.inr (hw _ (List.mem_of_getElem? (i := 24) rfl))) (Or.inr (hw _ (List.mem_of_getElem? (i := 28) rfl))) (by decide) (t := (.array .int)) (t' := (.array .int)) (by decide) (by decide)))).other W318 (Or.inr (slot_ne (a0 := a0) (C := "com/example/sieve_for_links/sieveforlinks/VirtualLinks") (Or.inr (hw _ (List.mem_of_getElem? (i := 24) rfl))) (Or.inr (hw _ (List.mem_of_getElem? (i := 30) rfl))) (by decide) (t := (.array .int)) (t' := (.array .int)) (by decide) (by decide))))⟩)
theorem d5_0 : decode prog_33_method_2_code 0 = .ok (.aload_n 0, 1) := by decide +kernel
theorem d5_1 : decode prog_33_method_2_code 1 = .ok (.getfield 26, 3) := by decide +kernel
theorem d5_4 : decode prog_33_method_2_code 4 = .ok (.arraylength, 1) := by decide +kernel
theorem d5_5 : decode prog_33_method_2_code 5 = .ok (.ifCond .eq 12, 3) := by decide +kernel
theorem d5_8 : decode prog_33_method_2_code 8 = .ok (.aload_n 0, 1) := by decide +kernel
theorem d5_9 : decode prog_33_method_2_code 9 = .ok (.getfield 26, 3) := by decide +kernel
theorem d5_12 : decode prog_33_method_2_code 12 = .ok (.arraylength, 1) := by decide +kernel
theorem d5_13 : decode prog_33_method_2_code 13 = .ok (.iload_n 1, 1) := by decide +kernel
theorem d5_14 : decode prog_33_method_2_code 14 = .ok (.if_icmp .ne 7, 3) := by decide +kernel
theorem d5_17 : decode prog_33_method_2_code 17 = .ok (.iconst 1, 1) := by decide +kernel
theorem d5_18 : decode prog_33_method_2_code 18 = .ok (.goto 4, 3) := by decide +kernel
theorem d5_21 : decode prog_33_method_2_code 21 = .ok (.iconst 0, 1) := by decide +kernel
theorem d5_22 : decode prog_33_method_2_code 22 = .ok (.ireturn, 1) := by decide +kernel
def f50 (o : Addr) (q0 : Int32) (gr : Addr) (kg : ClassId) (vs : List Value) : Int32 := (1 : Int32)
abbrev GoB50 (l : Launch) (Z : State) (n0 : Nat) (Q : Option Value → Heap → Prop) := Go l Z ({ frames := 0, cells := 0, slots := 0, locals := 0 } : Room) (⟨"com/example/sieve_for_links/sieveforlinks/VirtualLinks", "fits", "(I)Z"⟩ : MethodName) prog_33_method_2_code 2 (some .boolean) n0 Q
theorem ef50 (m : MethodId) (o : Addr) (q0 : Int32) : entryFrame m #[(.ref o), (.int q0)] 2 = mkF m 0 #[.val (.ref o), .val (.int q0)] [] := by first | (simp [entryFrame, mkF, argsToLocals, Value.category]; done) | rfl
set_option maxRecDepth 65536 in
set_option maxHeartbeats 40000000 in
theorem rm50 (l : Launch) (Z : State) (a0 : Array Value) (hw : ∀ d ∈ tables_1, d.before a0 Z = true) (o : Addr) (q0 : Int32) (gr : Addr) (kg : ClassId) (vs : List Value) (h0 : Heap) (n0 : Nat) (F_g : Fld Z h0 o "com/example/sieve_for_links/sieveforlinks/VirtualLinks" "groups" "[I" (.ref gr)) (A_g : Arv Z h0 gr kg .int (0 : Int32) vs (.int (0 : Int32))) :
    Con l Z ({ frames := 0, cells := 0, slots := 0, locals := 0 } : Room) (⟨"com/example/sieve_for_links/sieveforlinks/VirtualLinks", "fits", "(I)Z"⟩ : MethodName) prog_33_method_2_code 2 (some .boolean) n0 #[(.ref o), (.int q0)] h0 (OwnW.Ret (some (.int (f50 o q0 gr kg vs))) h0) := by
  refine OwnW.Con.of (by first | decide +kernel | exact plainFor_of_name (by simp [plainName, overriddenIn])) (fun m => ef50 m o q0) ?_
  show GoB50 l Z n0 (OwnW.Ret (some (.int (f50 o q0 gr kg vs))) h0) h0 0 0 0 #[.val (.ref o), .val (.int q0)] []
  refine OwnW.aloadN (pc' := 1) d5_0 rfl (rfl) rfl ?_
  refine OwnW.getF (a0 := a0) (pc' := 4) d5_1 (host := "") (Or.inl (hw _ (List.mem_of_getElem? (i := 23) rfl))) Via.refl F_g rfl ?_
  obtain ⟨cl1, Ar1, qk1, Sz1, Mn1, Hv1, Gf1⟩ := id A_g
  refine OwnW.alen (pc' := 5) (x := (0 : Int32)) d5_4 Ar1 (len_of Sz1 Mn1) rfl ?_
  refine OwnW.ifcY (pc' := 17) d5_5 ((if0 _ _).trans (teq (by decide)).1) (by decide) (by decide) ?_
  refine OwnW.iconst (pc' := 18) (v := (1 : Int32)) d5_17 rfl rfl ?_
  refine OwnW.goto (pc' := 22) d5_18 (by decide) (by decide) ?_
  exact OwnW.retN (t := .boolean) d5_22 rfl (by simp) rfl (by decide) (by decide) (⟨by first | (simp only [f50]; done) | (simp only [f50]; rfl), rfl⟩)
def f51 (o : Addr) (q0 : Int32) (gr : Addr) (kg : ClassId) (vs : List Value) : Int32 := (if (1 : Int32) = q0 then (1 : Int32) else (0 : Int32))
abbrev GoB51 (l : Launch) (Z : State) (n0 : Nat) (Q : Option Value → Heap → Prop) := Go l Z ({ frames := 0, cells := 0, slots := 0, locals := 0 } : Room) (⟨"com/example/sieve_for_links/sieveforlinks/VirtualLinks", "fits", "(I)Z"⟩ : MethodName) prog_33_method_2_code 2 (some .boolean) n0 Q
theorem ef51 (m : MethodId) (o : Addr) (q0 : Int32) : entryFrame m #[(.ref o), (.int q0)] 2 = mkF m 0 #[.val (.ref o), .val (.int q0)] [] := by first | (simp [entryFrame, mkF, argsToLocals, Value.category]; done) | rfl
set_option maxRecDepth 65536 in
set_option maxHeartbeats 40000000 in
theorem rm51 (l : Launch) (Z : State) (a0 : Array Value) (hw : ∀ d ∈ tables_1, d.before a0 Z = true) (o : Addr) (q0 : Int32) (gr : Addr) (kg : ClassId) (vs : List Value) (h0 : Heap) (n0 : Nat) (F_g : Fld Z h0 o "com/example/sieve_for_links/sieveforlinks/VirtualLinks" "groups" "[I" (.ref gr)) (A_g : Arv Z h0 gr kg .int (1 : Int32) vs (.int (0 : Int32))) :
    Con l Z ({ frames := 0, cells := 0, slots := 0, locals := 0 } : Room) (⟨"com/example/sieve_for_links/sieveforlinks/VirtualLinks", "fits", "(I)Z"⟩ : MethodName) prog_33_method_2_code 2 (some .boolean) n0 #[(.ref o), (.int q0)] h0 (OwnW.Ret (some (.int (f51 o q0 gr kg vs))) h0) := by
  refine OwnW.Con.of (by first | decide +kernel | exact plainFor_of_name (by simp [plainName, overriddenIn])) (fun m => ef51 m o q0) ?_
  show GoB51 l Z n0 (OwnW.Ret (some (.int (f51 o q0 gr kg vs))) h0) h0 0 0 0 #[.val (.ref o), .val (.int q0)] []
  refine OwnW.aloadN (pc' := 1) d5_0 rfl (rfl) rfl ?_
  refine OwnW.getF (a0 := a0) (pc' := 4) d5_1 (host := "") (Or.inl (hw _ (List.mem_of_getElem? (i := 23) rfl))) Via.refl F_g rfl ?_
  obtain ⟨cl1, Ar1, qk1, Sz1, Mn1, Hv1, Gf1⟩ := id A_g
  refine OwnW.alen (pc' := 5) (x := (1 : Int32)) d5_4 Ar1 (len_of Sz1 Mn1) rfl ?_
  refine OwnW.ifcN (pc' := 8) d5_5 ((if0 _ _).trans (feq (by decide)).1) rfl ?_
  refine OwnW.aloadN (pc' := 9) d5_8 rfl (rfl) rfl ?_
  refine OwnW.getF (a0 := a0) (pc' := 12) d5_9 (host := "") (Or.inl (hw _ (List.mem_of_getElem? (i := 23) rfl))) Via.refl F_g rfl ?_
  obtain ⟨cl2, Ar2, qk2, Sz2, Mn2, Hv2, Gf2⟩ := id A_g
  refine OwnW.alen (pc' := 13) (x := (1 : Int32)) d5_12 Ar2 (len_of Sz2 Mn2) rfl ?_
  refine OwnW.iloadN (pc' := 14) d5_13 rfl rfl ?_
  by_cases hc14 : (1 : Int32) = q0
  ·
    refine OwnW.icmpN (pc' := 17) d5_14 (teq hc14).2 rfl ?_
    refine OwnW.iconst (pc' := 18) (v := (1 : Int32)) d5_17 rfl rfl ?_
    refine OwnW.goto (pc' := 22) d5_18 (by decide) (by decide) ?_
    exact OwnW.retN (t := .boolean) d5_22 rfl (by simp) rfl (by decide) (by decide) (⟨by first | (simp only [f51, if_pos hc14]; done) | (simp only [f51, if_pos hc14]; rfl), rfl⟩)
  ·
    refine OwnW.icmpY (pc' := 21) d5_14 (feq hc14).2 (by decide) (by decide) ?_
    refine OwnW.iconst (pc' := 22) (v := (0 : Int32)) d5_21 rfl rfl ?_
    exact OwnW.retN (t := .boolean) d5_22 rfl (by simp) rfl (by decide) (by decide) (⟨by first | (simp only [f51, if_neg hc14]; done) | (simp only [f51, if_neg hc14]; rfl), rfl⟩)
def f52 (o : Addr) (q0 : Int32) (gr : Addr) (kg : ClassId) (vs : List Value) : Int32 := (if (2 : Int32) = q0 then (1 : Int32) else (0 : Int32))
abbrev GoB52 (l : Launch) (Z : State) (n0 : Nat) (Q : Option Value → Heap → Prop) := Go l Z ({ frames := 0, cells := 0, slots := 0, locals := 0 } : Room) (⟨"com/example/sieve_for_links/sieveforlinks/VirtualLinks", "fits", "(I)Z"⟩ : MethodName) prog_33_method_2_code 2 (some .boolean) n0 Q
theorem ef52 (m : MethodId) (o : Addr) (q0 : Int32) : entryFrame m #[(.ref o), (.int q0)] 2 = mkF m 0 #[.val (.ref o), .val (.int q0)] [] := by first | (simp [entryFrame, mkF, argsToLocals, Value.category]; done) | rfl
set_option maxRecDepth 65536 in
set_option maxHeartbeats 40000000 in
theorem rm52 (l : Launch) (Z : State) (a0 : Array Value) (hw : ∀ d ∈ tables_1, d.before a0 Z = true) (o : Addr) (q0 : Int32) (gr : Addr) (kg : ClassId) (vs : List Value) (h0 : Heap) (n0 : Nat) (F_g : Fld Z h0 o "com/example/sieve_for_links/sieveforlinks/VirtualLinks" "groups" "[I" (.ref gr)) (A_g : Arv Z h0 gr kg .int (2 : Int32) vs (.int (0 : Int32))) :
    Con l Z ({ frames := 0, cells := 0, slots := 0, locals := 0 } : Room) (⟨"com/example/sieve_for_links/sieveforlinks/VirtualLinks", "fits", "(I)Z"⟩ : MethodName) prog_33_method_2_code 2 (some .boolean) n0 #[(.ref o), (.int q0)] h0 (OwnW.Ret (some (.int (f52 o q0 gr kg vs))) h0) := by
  refine OwnW.Con.of (by first | decide +kernel | exact plainFor_of_name (by simp [plainName, overriddenIn])) (fun m => ef52 m o q0) ?_
  show GoB52 l Z n0 (OwnW.Ret (some (.int (f52 o q0 gr kg vs))) h0) h0 0 0 0 #[.val (.ref o), .val (.int q0)] []
  refine OwnW.aloadN (pc' := 1) d5_0 rfl (rfl) rfl ?_
  refine OwnW.getF (a0 := a0) (pc' := 4) d5_1 (host := "") (Or.inl (hw _ (List.mem_of_getElem? (i := 23) rfl))) Via.refl F_g rfl ?_
  obtain ⟨cl1, Ar1, qk1, Sz1, Mn1, Hv1, Gf1⟩ := id A_g
  refine OwnW.alen (pc' := 5) (x := (2 : Int32)) d5_4 Ar1 (len_of Sz1 Mn1) rfl ?_
  refine OwnW.ifcN (pc' := 8) d5_5 ((if0 _ _).trans (feq (by decide)).1) rfl ?_
  refine OwnW.aloadN (pc' := 9) d5_8 rfl (rfl) rfl ?_
  refine OwnW.getF (a0 := a0) (pc' := 12) d5_9 (host := "") (Or.inl (hw _ (List.mem_of_getElem? (i := 23) rfl))) Via.refl F_g rfl ?_
  obtain ⟨cl2, Ar2, qk2, Sz2, Mn2, Hv2, Gf2⟩ := id A_g
  refine OwnW.alen (pc' := 13) (x := (2 : Int32)) d5_12 Ar2 (len_of Sz2 Mn2) rfl ?_
  refine OwnW.iloadN (pc' := 14) d5_13 rfl rfl ?_
  by_cases hc14 : (2 : Int32) = q0
  ·
    refine OwnW.icmpN (pc' := 17) d5_14 (teq hc14).2 rfl ?_
    refine OwnW.iconst (pc' := 18) (v := (1 : Int32)) d5_17 rfl rfl ?_
    refine OwnW.goto (pc' := 22) d5_18 (by decide) (by decide) ?_
    exact OwnW.retN (t := .boolean) d5_22 rfl (by simp) rfl (by decide) (by decide) (⟨by first | (simp only [f52, if_pos hc14]; done) | (simp only [f52, if_pos hc14]; rfl), rfl⟩)
  ·
    refine OwnW.icmpY (pc' := 21) d5_14 (feq hc14).2 (by decide) (by decide) ?_
    refine OwnW.iconst (pc' := 22) (v := (0 : Int32)) d5_21 rfl rfl ?_
    exact OwnW.retN (t := .boolean) d5_22 rfl (by simp) rfl (by decide) (by decide) (⟨by first | (simp only [f52, if_neg hc14]; done) | (simp only [f52, if_neg hc14]; rfl), rfl⟩)
def f53 (o : Addr) (q0 : Int32) (gr : Addr) (kg : ClassId) (vs : List Value) : Int32 := (if (3 : Int32) = q0 then (1 : Int32) else (0 : Int32))
abbrev GoB53 (l : Launch) (Z : State) (n0 : Nat) (Q : Option Value → Heap → Prop) := Go l Z ({ frames := 0, cells := 0, slots := 0, locals := 0 } : Room) (⟨"com/example/sieve_for_links/sieveforlinks/VirtualLinks", "fits", "(I)Z"⟩ : MethodName) prog_33_method_2_code 2 (some .boolean) n0 Q
theorem ef53 (m : MethodId) (o : Addr) (q0 : Int32) : entryFrame m #[(.ref o), (.int q0)] 2 = mkF m 0 #[.val (.ref o), .val (.int q0)] [] := by first | (simp [entryFrame, mkF, argsToLocals, Value.category]; done) | rfl
set_option maxRecDepth 65536 in
set_option maxHeartbeats 40000000 in
theorem rm53 (l : Launch) (Z : State) (a0 : Array Value) (hw : ∀ d ∈ tables_1, d.before a0 Z = true) (o : Addr) (q0 : Int32) (gr : Addr) (kg : ClassId) (vs : List Value) (h0 : Heap) (n0 : Nat) (F_g : Fld Z h0 o "com/example/sieve_for_links/sieveforlinks/VirtualLinks" "groups" "[I" (.ref gr)) (A_g : Arv Z h0 gr kg .int (3 : Int32) vs (.int (0 : Int32))) :
    Con l Z ({ frames := 0, cells := 0, slots := 0, locals := 0 } : Room) (⟨"com/example/sieve_for_links/sieveforlinks/VirtualLinks", "fits", "(I)Z"⟩ : MethodName) prog_33_method_2_code 2 (some .boolean) n0 #[(.ref o), (.int q0)] h0 (OwnW.Ret (some (.int (f53 o q0 gr kg vs))) h0) := by
  refine OwnW.Con.of (by first | decide +kernel | exact plainFor_of_name (by simp [plainName, overriddenIn])) (fun m => ef53 m o q0) ?_
  show GoB53 l Z n0 (OwnW.Ret (some (.int (f53 o q0 gr kg vs))) h0) h0 0 0 0 #[.val (.ref o), .val (.int q0)] []
  refine OwnW.aloadN (pc' := 1) d5_0 rfl (rfl) rfl ?_
  refine OwnW.getF (a0 := a0) (pc' := 4) d5_1 (host := "") (Or.inl (hw _ (List.mem_of_getElem? (i := 23) rfl))) Via.refl F_g rfl ?_
  obtain ⟨cl1, Ar1, qk1, Sz1, Mn1, Hv1, Gf1⟩ := id A_g
  refine OwnW.alen (pc' := 5) (x := (3 : Int32)) d5_4 Ar1 (len_of Sz1 Mn1) rfl ?_
  refine OwnW.ifcN (pc' := 8) d5_5 ((if0 _ _).trans (feq (by decide)).1) rfl ?_
  refine OwnW.aloadN (pc' := 9) d5_8 rfl (rfl) rfl ?_
  refine OwnW.getF (a0 := a0) (pc' := 12) d5_9 (host := "") (Or.inl (hw _ (List.mem_of_getElem? (i := 23) rfl))) Via.refl F_g rfl ?_
  obtain ⟨cl2, Ar2, qk2, Sz2, Mn2, Hv2, Gf2⟩ := id A_g
  refine OwnW.alen (pc' := 13) (x := (3 : Int32)) d5_12 Ar2 (len_of Sz2 Mn2) rfl ?_
  refine OwnW.iloadN (pc' := 14) d5_13 rfl rfl ?_
  by_cases hc14 : (3 : Int32) = q0
  ·
    refine OwnW.icmpN (pc' := 17) d5_14 (teq hc14).2 rfl ?_
    refine OwnW.iconst (pc' := 18) (v := (1 : Int32)) d5_17 rfl rfl ?_
    refine OwnW.goto (pc' := 22) d5_18 (by decide) (by decide) ?_
    exact OwnW.retN (t := .boolean) d5_22 rfl (by simp) rfl (by decide) (by decide) (⟨by first | (simp only [f53, if_pos hc14]; done) | (simp only [f53, if_pos hc14]; rfl), rfl⟩)
  ·
    refine OwnW.icmpY (pc' := 21) d5_14 (feq hc14).2 (by decide) (by decide) ?_
    refine OwnW.iconst (pc' := 22) (v := (0 : Int32)) d5_21 rfl rfl ?_
    exact OwnW.retN (t := .boolean) d5_22 rfl (by simp) rfl (by decide) (by decide) (⟨by first | (simp only [f53, if_neg hc14]; done) | (simp only [f53, if_neg hc14]; rfl), rfl⟩)
abbrev GoB0 (l : Launch) (Z : State) (n0 : Nat) (Q : Option Value → Heap → Prop) := Go l Z room_1 x code maxLocals ret n0 Q
theorem ef0 (m : MethodId) (p0 : Int32) (p1 : Int32) (p2 : Int32) (p3 : Int32) : entryFrame m #[(.int p0), (.int p1), (.int p2), (.int p3)] maxLocals = mkF m 0 #[.val (.int p0), .val (.int p1), .val (.int p2), .val (.int p3), .unset, .unset, .unset, .unset, .unset, .unset, .unset] [] := by first | (simp [entryFrame, mkF, argsToLocals, Value.category, maxLocals]; done) | rfl
set_option maxRecDepth 65536 in
set_option maxHeartbeats 400000000 in
theorem rm0 (l : Launch) (Z : State) (a0 : Array Value) (hw : ∀ d ∈ tables_1, d.before a0 Z = true) (p0 : Int32) (p1 : Int32) (p2 : Int32) (p3 : Int32) (h0 : Heap) (n0 : Nat) (Z0 : n0 ≤ h0.size) :
    Con l Z room_1 x code maxLocals ret n0 #[(.int p0), (.int p1), (.int p2), (.int p3)] h0 OwnW.One1 := by
  refine OwnW.Con.of (by first | decide +kernel | exact plainFor_of_name (by simp [x, plainName, overriddenIn])) (fun m => ef0 m p0 p1 p2 p3) ?_
  show GoB0 l Z n0 OwnW.One1 h0 0 0 0 #[.val (.int p0), .val (.int p1), .val (.int p2), .val (.int p3), .unset, .unset, .unset, .unset, .unset, .unset, .unset] []
  refine OwnW.iloadN (pc' := 1) at_0 rfl rfl ?_
  refine OwnW.iconst (pc' := 2) (v := (3 : Int32)) at_1 rfl rfl ?_
  refine OwnW.iand (pc' := 3) at_2 rfl ?_
  obtain ⟨ln, hln⟩ : ∃ z, z = (p0 &&& (3 : Int32)) := ⟨_, rfl⟩
  rw [← hln]
  show GoB0 l Z n0 OwnW.One1 h0 0 0 3 #[.val (.int p0), .val (.int p1), .val (.int p2), .val (.int p3), .unset, .unset, .unset, .unset, .unset, .unset, .unset] [(.int ln)]
  rcases (own_len hln) with rfl | rfl | rfl | rfl
  ·
    show GoB0 l Z n0 OwnW.One1 h0 0 0 3 #[.val (.int p0), .val (.int p1), .val (.int p2), .val (.int p3), .unset, .unset, .unset, .unset, .unset, .unset, .unset] [(.int (0 : Int32))]
    refine OwnW.istore (pc' := 5) (L' := #[.val (.int p0), .val (.int p1), .val (.int p2), .val (.int p3), .val (.int (0 : Int32)), .unset, .unset, .unset, .unset, .unset, .unset]) at_3 rfl rfl ?_
    refine OwnW.iload (pc' := 7) at_5 rfl rfl ?_
    refine OwnW.newP (a0 := a0) (pc' := 9) (cap := 0) (k' := 1) (n' := 0) at_7 (hw _ (List.mem_of_getElem? (i := 0) rfl)) (by decide) (by decide) (by decide) rfl rfl (by decide) (by decide) rfl ?_
    intro h1 kc1 ad1 g1 E1 A1
    have ge_ad1 : n0 ≤ ad1 := Nat.le_trans Z0 (Nat.le_of_eq g1.symm)
    have sz_ad1 : n0 ≤ h1.size := Nat.le_trans Z0 E1.1
    have V1 : Arv Z h1 ad1 kc1 .int (0 : Int32) [] (.int (0 : Int32)) := (Arv.new A1 (by decide)).pad (pad_rep [] _ 0)
    refine OwnW.astore (pc' := 11) (L' := #[.val (.int p0), .val (.int p1), .val (.int p2), .val (.int p3), .val (.int (0 : Int32)), .val (.ref ad1), .unset, .unset, .unset, .unset, .unset]) at_9 (rfl) rfl rfl ?_
    refine OwnW.iload (pc' := 13) at_11 rfl rfl ?_
    refine OwnW.newP (a0 := a0) (pc' := 15) (cap := 0) (k' := 2) (n' := 0) at_13 (hw _ (List.mem_of_getElem? (i := 1) rfl)) (by decide) (by decide) (by decide) rfl rfl (by decide) (by decide) rfl ?_
    intro h2 kc2 ad2 g2 E2 A2
    have lt_ad1_ad2 : @LT.lt Nat _ ad1 ad2 := Nat.lt_of_lt_of_le (V1).lt (Nat.le_of_eq g2.symm)
    have ge_ad2 : n0 ≤ ad2 := Nat.le_trans sz_ad1 (Nat.le_of_eq g2.symm)
    have sz_ad2 : n0 ≤ h2.size := Nat.le_trans sz_ad1 E2.1
    have V2 : Arv Z h2 ad2 kc2 .double (0 : Int32) [] (.double (0 : UInt64)) := (Arv.new A2 (by decide)).pad (pad_rep [] _ 0)
    refine OwnW.astore (pc' := 17) (L' := #[.val (.int p0), .val (.int p1), .val (.int p2), .val (.int p3), .val (.int (0 : Int32)), .val (.ref ad1), .val (.ref ad2), .unset, .unset, .unset, .unset]) at_15 (rfl) rfl rfl ?_
    refine OwnW.iload (pc' := 19) at_17 rfl rfl ?_
    refine OwnW.ifcY (pc' := 44) at_19 ((if0 _ _).trans (flt (by decide)).2.2.2) (by decide) (by decide) ?_
    refine OwnW.iload (pc' := 46) at_44 rfl rfl ?_
    refine OwnW.iconst (pc' := 47) (v := (1 : Int32)) at_46 rfl rfl ?_
    refine OwnW.icmpY (pc' := 72) at_47 (flt (by decide)).2.2.2 (by decide) (by decide) ?_
    refine OwnW.iload (pc' := 74) at_72 rfl rfl ?_
    refine OwnW.iconst (pc' := 75) (v := (2 : Int32)) at_74 rfl rfl ?_
    refine OwnW.icmpY (pc' := 100) at_75 (flt (by decide)).2.2.2 (by decide) (by decide) ?_
    refine OwnW.newO (a0 := a0) (pc' := 103) (k' := 3) (n' := 4) at_100 (hw _ (List.mem_of_getElem? (i := 2) rfl)) (hw _ (List.mem_of_getElem? (i := 3) rfl)) (hw _ (List.mem_of_getElem? (i := 4) rfl)) rfl rfl (by decide) (by decide) rfl ?_
    intro h3 ad3 g3 E3 A3 D3
    have lt_ad1_ad3 : @LT.lt Nat _ ad1 ad3 := Nat.lt_of_lt_of_le ((V1.ext E2)).lt (Nat.le_of_eq g3.symm)
    have lt_ad2_ad3 : @LT.lt Nat _ ad2 ad3 := Nat.lt_of_lt_of_le (V2).lt (Nat.le_of_eq g3.symm)
    have ge_ad3 : n0 ≤ ad3 := Nat.le_trans sz_ad2 (Nat.le_of_eq g3.symm)
    have sz_ad3 : n0 ≤ h3.size := Nat.le_trans sz_ad2 E3.1
    have F3_groups : Fld Z h3 ad3 "com/example/sieve_for_links/sieveforlinks/VirtualLinks" "groups" "[I" .null := D3 (Or.inr (hw _ (List.mem_of_getElem? (i := 24) rfl))) (ty := (.array .int)) (by decide)
    have F3_shares : Fld Z h3 ad3 "com/example/sieve_for_links/sieveforlinks/VirtualLinks" "shares" "[D" .null := D3 (Or.inr (hw _ (List.mem_of_getElem? (i := 26) rfl))) (ty := (.array .double)) (by decide)
    have F3_members : Fld Z h3 ad3 "com/example/sieve_for_links/sieveforlinks/VirtualLinks" "members" "[I" .null := D3 (Or.inr (hw _ (List.mem_of_getElem? (i := 28) rfl))) (ty := (.array .int)) (by decide)
    have F3_memberStarts : Fld Z h3 ad3 "com/example/sieve_for_links/sieveforlinks/VirtualLinks" "memberStarts" "[I" .null := D3 (Or.inr (hw _ (List.mem_of_getElem? (i := 30) rfl))) (ty := (.array .int)) (by decide)
    refine OwnW.dup (pc' := 104) at_103 rfl rfl ?_
    refine OwnW.aload (pc' := 106) at_104 rfl (rfl) rfl ?_
    refine OwnW.aload (pc' := 108) at_106 rfl (rfl) rfl ?_
    refine OwnW.iconst (pc' := 109) (v := (2 : Int32)) at_108 rfl rfl ?_
    have F4 := ((V1.ext E2).ext E3)
    have F5 := (V2.ext E3)
    refine OwnW.callI (a0 := a0) (pc' := 112) (W := 1) (k' := 7) (n' := 14) (argsL := [(.ref ad1), (.ref ad2), (.int (2 : Int32))]) (rest := [(.ref ad3)]) at_109 rfl (hw _ (List.mem_of_getElem? (i := 5) rfl)) (hw _ (List.mem_of_getElem? (i := 6) rfl)) (hw _ (List.mem_of_getElem? (i := 4) rfl)) (hw _ (List.mem_of_getElem? (i := 7) rfl)) (by decide) (rm10 l Z a0 hw ad3 ad1 ad2 kc1 kc2 h3 n0 sz_ad3 ge_ad3 A3 F3_groups F3_shares F3_members F3_memberStarts F4 F5) (by decide) (by decide) rfl rfl (by decide) (by decide) rfl pd_285bI5bDI29V rfl rfl rfl (Nat.le_of_ble_eq_true rfl) rfl ?_
    rintro h6 v6 ⟨rfl, K6, Fc6_0, Fc6_1⟩
    have sz7 : n0 ≤ h6.size := Nat.le_trans sz_ad3 K6.1
    show GoB0 l Z n0 OwnW.One1 h6 7 14 112 #[.val (.int p0), .val (.int p1), .val (.int p2), .val (.int p3), .val (.int (0 : Int32)), .val (.ref ad1), .val (.ref ad2), .unset, .unset, .unset, .unset] [(.ref ad3)]
    refine OwnW.astore (pc' := 114) (L' := #[.val (.int p0), .val (.int p1), .val (.int p2), .val (.int p3), .val (.int (0 : Int32)), .val (.ref ad1), .val (.ref ad2), .val (.ref ad3), .unset, .unset, .unset]) at_112 (rfl) rfl rfl ?_
    refine OwnW.iloadN (pc' := 115) at_114 rfl rfl ?_
    refine OwnW.iconst (pc' := 116) (v := (2 : Int32)) at_115 rfl rfl ?_
    refine OwnW.iushr (pc' := 117) at_116 rfl ?_
    refine OwnW.iconst (pc' := 118) (v := (3 : Int32)) at_117 rfl rfl ?_
    refine OwnW.iand (pc' := 119) at_118 rfl ?_
    refine OwnW.istore (pc' := 121) (L' := #[.val (.int p0), .val (.int p1), .val (.int p2), .val (.int p3), .val (.int (0 : Int32)), .val (.ref ad1), .val (.ref ad2), .val (.ref ad3), .val (.int (((p0.toUInt32 >>> ((2 : Int32) &&& 31).toUInt32).toInt32) &&& (3 : Int32))), .unset, .unset]) at_119 rfl rfl ?_
    refine OwnW.iload (pc' := 123) at_121 rfl rfl ?_
    suffices J123_166 : ∀ (nn : Int32), nn = (if (((p0.toUInt32 >>> ((2 : Int32) &&& 31).toUInt32).toInt32) &&& (3 : Int32)) = (0 : Int32) then p3 else (if (((p0.toUInt32 >>> ((2 : Int32) &&& 31).toUInt32).toInt32) &&& (3 : Int32)) = (1 : Int32) then (0 : Int32) else (if (((p0.toUInt32 >>> ((2 : Int32) &&& 31).toUInt32).toInt32) &&& (3 : Int32)) = (2 : Int32) then (1 : Int32) else (-1 : Int32)))) → GoB0 l Z n0 OwnW.One1 h6 7 14 166 #[.val (.int p0), .val (.int p1), .val (.int p2), .val (.int p3), .val (.int (0 : Int32)), .val (.ref ad1), .val (.ref ad2), .val (.ref ad3), .val (.int (((p0.toUInt32 >>> ((2 : Int32) &&& 31).toUInt32).toInt32) &&& (3 : Int32))), .val (.int nn), .unset] [] by
      by_cases hc123 : (((p0.toUInt32 >>> ((2 : Int32) &&& 31).toUInt32).toInt32) &&& (3 : Int32)) = (0 : Int32)
      ·
        refine OwnW.ifcN (pc' := 126) at_123 ((if0 _ _).trans (teq hc123).2) rfl ?_
        refine OwnW.iloadN (pc' := 127) at_126 rfl rfl ?_
        refine OwnW.istore (pc' := 129) (L' := #[.val (.int p0), .val (.int p1), .val (.int p2), .val (.int p3), .val (.int (0 : Int32)), .val (.ref ad1), .val (.ref ad2), .val (.ref ad3), .val (.int (((p0.toUInt32 >>> ((2 : Int32) &&& 31).toUInt32).toInt32) &&& (3 : Int32))), .val (.int p3), .unset]) at_127 rfl rfl ?_
        refine OwnW.goto (pc' := 166) at_129 (by decide) (by decide) ?_
        exact J123_166 _ (by first | simp only [if_pos hc123] | rfl)
      ·
        refine OwnW.ifcY (pc' := 132) at_123 ((if0 _ _).trans (feq hc123).2) (by decide) (by decide) ?_
        refine OwnW.iload (pc' := 134) at_132 rfl rfl ?_
        refine OwnW.iconst (pc' := 135) (v := (1 : Int32)) at_134 rfl rfl ?_
        by_cases hc135 : (((p0.toUInt32 >>> ((2 : Int32) &&& 31).toUInt32).toInt32) &&& (3 : Int32)) = (1 : Int32)
        ·
          refine OwnW.icmpN (pc' := 138) at_135 (teq hc135).2 rfl ?_
          refine OwnW.iload (pc' := 140) at_138 rfl rfl ?_
          refine OwnW.istore (pc' := 142) (L' := #[.val (.int p0), .val (.int p1), .val (.int p2), .val (.int p3), .val (.int (0 : Int32)), .val (.ref ad1), .val (.ref ad2), .val (.ref ad3), .val (.int (((p0.toUInt32 >>> ((2 : Int32) &&& 31).toUInt32).toInt32) &&& (3 : Int32))), .val (.int (0 : Int32)), .unset]) at_140 rfl rfl ?_
          refine OwnW.goto (pc' := 166) at_142 (by decide) (by decide) ?_
          exact J123_166 _ (by first | simp only [if_neg hc123, if_pos hc135] | rfl)
        ·
          refine OwnW.icmpY (pc' := 145) at_135 (feq hc135).2 (by decide) (by decide) ?_
          refine OwnW.iload (pc' := 147) at_145 rfl rfl ?_
          refine OwnW.iconst (pc' := 148) (v := (2 : Int32)) at_147 rfl rfl ?_
          by_cases hc148 : (((p0.toUInt32 >>> ((2 : Int32) &&& 31).toUInt32).toInt32) &&& (3 : Int32)) = (2 : Int32)
          ·
            refine OwnW.icmpN (pc' := 151) at_148 (teq hc148).2 rfl ?_
            refine OwnW.iload (pc' := 153) at_151 rfl rfl ?_
            refine OwnW.iconst (pc' := 154) (v := (1 : Int32)) at_153 rfl rfl ?_
            refine OwnW.iadd (pc' := 155) at_154 rfl ?_
            show GoB0 l Z n0 OwnW.One1 h6 7 14 155 #[.val (.int p0), .val (.int p1), .val (.int p2), .val (.int p3), .val (.int (0 : Int32)), .val (.ref ad1), .val (.ref ad2), .val (.ref ad3), .val (.int (((p0.toUInt32 >>> ((2 : Int32) &&& 31).toUInt32).toInt32) &&& (3 : Int32))), .unset, .unset] [(.int (1 : Int32))]
            refine OwnW.istore (pc' := 157) (L' := #[.val (.int p0), .val (.int p1), .val (.int p2), .val (.int p3), .val (.int (0 : Int32)), .val (.ref ad1), .val (.ref ad2), .val (.ref ad3), .val (.int (((p0.toUInt32 >>> ((2 : Int32) &&& 31).toUInt32).toInt32) &&& (3 : Int32))), .val (.int (1 : Int32)), .unset]) at_155 rfl rfl ?_
            refine OwnW.goto (pc' := 166) at_157 (by decide) (by decide) ?_
            exact J123_166 _ (by first | simp only [if_neg hc123, if_neg hc135, if_pos hc148] | rfl)
          ·
            refine OwnW.icmpY (pc' := 160) at_148 (feq hc148).2 (by decide) (by decide) ?_
            refine OwnW.iload (pc' := 162) at_160 rfl rfl ?_
            refine OwnW.iconst (pc' := 163) (v := (1 : Int32)) at_162 rfl rfl ?_
            refine OwnW.isub (pc' := 164) at_163 rfl ?_
            show GoB0 l Z n0 OwnW.One1 h6 7 14 164 #[.val (.int p0), .val (.int p1), .val (.int p2), .val (.int p3), .val (.int (0 : Int32)), .val (.ref ad1), .val (.ref ad2), .val (.ref ad3), .val (.int (((p0.toUInt32 >>> ((2 : Int32) &&& 31).toUInt32).toInt32) &&& (3 : Int32))), .unset, .unset] [(.int (-1 : Int32))]
            refine OwnW.istore (pc' := 166) (L' := #[.val (.int p0), .val (.int p1), .val (.int p2), .val (.int p3), .val (.int (0 : Int32)), .val (.ref ad1), .val (.ref ad2), .val (.ref ad3), .val (.int (((p0.toUInt32 >>> ((2 : Int32) &&& 31).toUInt32).toInt32) &&& (3 : Int32))), .val (.int (-1 : Int32)), .unset]) at_164 rfl rfl ?_
            exact J123_166 _ (by first | simp only [if_neg hc123, if_neg hc135, if_neg hc148] | rfl)
    intro nn hnn
    refine OwnW.iload (pc' := 168) at_166 rfl rfl ?_
    refine OwnW.ifcY (pc' := 178) at_168 ((if0 _ _).trans (teq (by decide)).1) (by decide) (by decide) ?_
    refine OwnW.iconst (pc' := 179) (v := (1 : Int32)) at_178 rfl rfl ?_
    refine OwnW.goto (pc' := 183) at_179 (by decide) (by decide) ?_
    refine OwnW.istore (pc' := 185) (L' := #[.val (.int p0), .val (.int p1), .val (.int p2), .val (.int p3), .val (.int (0 : Int32)), .val (.ref ad1), .val (.ref ad2), .val (.ref ad3), .val (.int (((p0.toUInt32 >>> ((2 : Int32) &&& 31).toUInt32).toInt32) &&& (3 : Int32))), .val (.int nn), .val (.int (1 : Int32))]) at_183 rfl rfl ?_
    refine OwnW.aload (pc' := 187) at_185 rfl (rfl) rfl ?_
    refine OwnW.iload (pc' := 189) at_187 rfl rfl ?_
    have F8 := (F4.keep K6 (ninS (Nat.ne_of_lt lt_ad1_ad3) nin0))
    refine OwnW.callV0 (a0 := a0) (pc' := 192) (W := 0) (k' := 7) (n' := 14) (argsL := [(.int nn)]) (rest := []) (St' := [(.int (f50 ad3 nn ad1 kc1 []))]) at_189 (hw _ (List.mem_of_getElem? (i := 31) rfl)) (hw _ (List.mem_of_getElem? (i := 32) rfl)) (hw _ (List.mem_of_getElem? (i := 34) rfl)) (hw _ (List.mem_of_getElem? (i := 33) rfl)) (hw _ (List.mem_of_getElem? (i := 4) rfl)) (hw _ (List.mem_of_getElem? (i := 35) rfl)) (by decide) Fc6_0 (rm50 l Z a0 hw ad3 nn ad1 kc1 [] h6 n0 Fc6_1 F8) (by decide) (by decide) rfl rfl (by decide) (by decide) rfl pd_28I29Z rfl rfl rfl (Nat.le_of_ble_eq_true rfl) rfl rfl ?_
    refine OwnW.iload (pc' := 194) at_192 rfl rfl ?_
    refine OwnW.icmpN (pc' := 197) at_194 (teq rfl).2 rfl ?_
    refine OwnW.iconst (pc' := 198) (v := (1 : Int32)) at_197 rfl rfl ?_
    refine OwnW.goto (pc' := 202) at_198 (by decide) (by decide) ?_
    exact OwnW.retN (t := .boolean) at_202 rfl (by simp) rfl (by decide) (by decide) (rfl)
  ·
    show GoB0 l Z n0 OwnW.One1 h0 0 0 3 #[.val (.int p0), .val (.int p1), .val (.int p2), .val (.int p3), .unset, .unset, .unset, .unset, .unset, .unset, .unset] [(.int (1 : Int32))]
    refine OwnW.istore (pc' := 5) (L' := #[.val (.int p0), .val (.int p1), .val (.int p2), .val (.int p3), .val (.int (1 : Int32)), .unset, .unset, .unset, .unset, .unset, .unset]) at_3 rfl rfl ?_
    refine OwnW.iload (pc' := 7) at_5 rfl rfl ?_
    refine OwnW.newP (a0 := a0) (pc' := 9) (cap := 1) (k' := 1) (n' := 1) at_7 (hw _ (List.mem_of_getElem? (i := 0) rfl)) (by decide) (by decide) (by decide) rfl rfl (by decide) (by decide) rfl ?_
    intro h9 kc9 ad9 g9 E9 A9
    have ge_ad9 : n0 ≤ ad9 := Nat.le_trans Z0 (Nat.le_of_eq g9.symm)
    have sz_ad9 : n0 ≤ h9.size := Nat.le_trans Z0 E9.1
    have V9 : Arv Z h9 ad9 kc9 .int (1 : Int32) [(.int (0 : Int32))] (.int (0 : Int32)) := (Arv.new A9 (by decide)).pad (pad_rep [] _ 1)
    refine OwnW.astore (pc' := 11) (L' := #[.val (.int p0), .val (.int p1), .val (.int p2), .val (.int p3), .val (.int (1 : Int32)), .val (.ref ad9), .unset, .unset, .unset, .unset, .unset]) at_9 (rfl) rfl rfl ?_
    refine OwnW.iload (pc' := 13) at_11 rfl rfl ?_
    refine OwnW.newP (a0 := a0) (pc' := 15) (cap := 1) (k' := 2) (n' := 2) at_13 (hw _ (List.mem_of_getElem? (i := 1) rfl)) (by decide) (by decide) (by decide) rfl rfl (by decide) (by decide) rfl ?_
    intro h10 kc10 ad10 g10 E10 A10
    have lt_ad9_ad10 : @LT.lt Nat _ ad9 ad10 := Nat.lt_of_lt_of_le (V9).lt (Nat.le_of_eq g10.symm)
    have ge_ad10 : n0 ≤ ad10 := Nat.le_trans sz_ad9 (Nat.le_of_eq g10.symm)
    have sz_ad10 : n0 ≤ h10.size := Nat.le_trans sz_ad9 E10.1
    have V10 : Arv Z h10 ad10 kc10 .double (1 : Int32) [(.double (0 : UInt64))] (.double (0 : UInt64)) := (Arv.new A10 (by decide)).pad (pad_rep [] _ 1)
    refine OwnW.astore (pc' := 17) (L' := #[.val (.int p0), .val (.int p1), .val (.int p2), .val (.int p3), .val (.int (1 : Int32)), .val (.ref ad9), .val (.ref ad10), .unset, .unset, .unset, .unset]) at_15 (rfl) rfl rfl ?_
    refine OwnW.iload (pc' := 19) at_17 rfl rfl ?_
    refine OwnW.ifcN (pc' := 22) at_19 ((if0 _ _).trans (tlt (by decide)).2.2.2) rfl ?_
    refine OwnW.aload (pc' := 24) at_22 rfl (rfl) rfl ?_
    refine OwnW.iconst (pc' := 25) (v := (0 : Int32)) at_24 rfl rfl ?_
    refine OwnW.iloadN (pc' := 26) at_25 rfl rfl ?_
    refine OwnW.iconst (pc' := 27) (v := (0 : Int32)) at_26 rfl rfl ?_
    refine OwnW.callS0 (a0 := a0) (pc' := 30) (W := 2) (k' := 2) (n' := 2) (argsL := [(.int p1), (.int (0 : Int32))]) (rest := [(.int (0 : Int32)), (.ref ad9)]) (St' := [(.int (f6 p1 (0 : Int32))), (.int (0 : Int32)), (.ref ad9)]) at_27 (hw _ (List.mem_of_getElem? (i := 36) rfl)) (hw _ (List.mem_of_getElem? (i := 37) rfl)) (hw _ (List.mem_of_getElem? (i := 38) rfl)) (hw _ (List.mem_of_getElem? (i := 39) rfl)) (by decide) (rm6 l Z a0 hw p1 (0 : Int32) h10 n0) (by decide) (by decide) rfl rfl (by decide) (by decide) rfl pd_28II29I rfl rfl rfl (Nat.le_of_ble_eq_true rfl) rfl rfl ?_
    obtain ⟨g0, hg0⟩ : ∃ z, z = (f6 p1 (0 : Int32)) := ⟨_, rfl⟩
    rw [← hg0]
    show GoB0 l Z n0 OwnW.One1 h10 2 2 30 #[.val (.int p0), .val (.int p1), .val (.int p2), .val (.int p3), .val (.int (1 : Int32)), .val (.ref ad9), .val (.ref ad10), .unset, .unset, .unset, .unset] [(.int g0), (.int (0 : Int32)), (.ref ad9)]
    have F11 := (V9.ext E10)
    obtain ⟨cl12, Ar12, qk12, Sz12, Mn12, Hv12, Gf12⟩ := id F11
    refine OwnW.stI (pc' := 31) at_30 Ar12 (inb_of Sz12 ⟨by decide, by decide⟩) ge_ad9 rfl ?_
    intro h12 W12
    have sz13 : n0 ≤ h12.size := (by rw [W12.size]; exact sz_ad10)
    have V12 : Arv Z h12 ad9 kc9 .int (1 : Int32) [(.int g0)] (.int (0 : Int32)) := Arv.set Ar12 qk12 Sz12 Mn12 Hv12 Gf12 rfl W12 0 rfl (Nat.le_of_ble_eq_true rfl)
    refine OwnW.aload (pc' := 33) at_31 rfl (rfl) rfl ?_
    refine OwnW.iconst (pc' := 34) (v := (0 : Int32)) at_33 rfl rfl ?_
    refine OwnW.aload (pc' := 36) at_34 rfl (rfl) rfl ?_
    refine OwnW.iconst (pc' := 37) (v := (0 : Int32)) at_36 rfl rfl ?_
    obtain ⟨cl14, Ar14, qk14, Sz14, Mn14, Hv14, Gf14⟩ := id V12
    refine OwnW.iaload (pc' := 38) (v := (.int g0)) at_37 Ar14 (inb_of Sz14 ⟨by decide, by decide⟩) (Hv14.at (inb_of Sz14 ⟨by decide, by decide⟩) rfl) rfl ?_
    refine OwnW.iloadN (pc' := 39) at_38 rfl rfl ?_
    refine OwnW.iconst (pc' := 40) (v := (0 : Int32)) at_39 rfl rfl ?_
    refine OwnW.callS0 (a0 := a0) (pc' := 43) (W := 2) (k' := 2) (n' := 2) (argsL := [(.int g0), (.int p2), (.int (0 : Int32))]) (rest := [(.int (0 : Int32)), (.ref ad10)]) (St' := [(.double (f7 g0 p2 (0 : Int32))), (.int (0 : Int32)), (.ref ad10)]) at_40 (hw _ (List.mem_of_getElem? (i := 40) rfl)) (hw _ (List.mem_of_getElem? (i := 41) rfl)) (hw _ (List.mem_of_getElem? (i := 38) rfl)) (hw _ (List.mem_of_getElem? (i := 42) rfl)) (by decide) (rm7 l Z a0 hw g0 p2 (0 : Int32) h12 n0) (by decide) (by decide) rfl rfl (by decide) (by decide) rfl pd_28III29D rfl rfl rfl (Nat.le_of_ble_eq_true rfl) rfl rfl ?_
    obtain ⟨s0, hs0⟩ : ∃ z, z = (f7 g0 p2 (0 : Int32)) := ⟨_, rfl⟩
    rw [← hs0]
    show GoB0 l Z n0 OwnW.One1 h12 2 2 43 #[.val (.int p0), .val (.int p1), .val (.int p2), .val (.int p3), .val (.int (1 : Int32)), .val (.ref ad9), .val (.ref ad10), .unset, .unset, .unset, .unset] [(.double s0), (.int (0 : Int32)), (.ref ad10)]
    have F15 := (V10.other W12 (Ne.symm (Nat.ne_of_lt lt_ad9_ad10)))
    obtain ⟨cl16, Ar16, qk16, Sz16, Mn16, Hv16, Gf16⟩ := id F15
    refine OwnW.stD (pc' := 44) at_43 Ar16 (inb_of Sz16 ⟨by decide, by decide⟩) ge_ad10 rfl ?_
    intro h16 W16
    have sz17 : n0 ≤ h16.size := (by rw [W16.size]; exact sz13)
    have V16 : Arv Z h16 ad10 kc10 .double (1 : Int32) [(.double s0)] (.double (0 : UInt64)) := Arv.set Ar16 qk16 Sz16 Mn16 Hv16 Gf16 rfl W16 0 rfl (Nat.le_of_ble_eq_true rfl)
    refine OwnW.iload (pc' := 46) at_44 rfl rfl ?_
    refine OwnW.iconst (pc' := 47) (v := (1 : Int32)) at_46 rfl rfl ?_
    refine OwnW.icmpY (pc' := 72) at_47 (flt (by decide)).2.2.2 (by decide) (by decide) ?_
    refine OwnW.iload (pc' := 74) at_72 rfl rfl ?_
    refine OwnW.iconst (pc' := 75) (v := (2 : Int32)) at_74 rfl rfl ?_
    refine OwnW.icmpY (pc' := 100) at_75 (flt (by decide)).2.2.2 (by decide) (by decide) ?_
    refine OwnW.newO (a0 := a0) (pc' := 103) (k' := 3) (n' := 6) at_100 (hw _ (List.mem_of_getElem? (i := 2) rfl)) (hw _ (List.mem_of_getElem? (i := 3) rfl)) (hw _ (List.mem_of_getElem? (i := 4) rfl)) rfl rfl (by decide) (by decide) rfl ?_
    intro h18 ad18 g18 E18 A18 D18
    have lt_ad9_ad18 : @LT.lt Nat _ ad9 ad18 := Nat.lt_of_lt_of_le ((V12.other W16 (Nat.ne_of_lt lt_ad9_ad10))).lt (Nat.le_of_eq g18.symm)
    have lt_ad10_ad18 : @LT.lt Nat _ ad10 ad18 := Nat.lt_of_lt_of_le (V16).lt (Nat.le_of_eq g18.symm)
    have ge_ad18 : n0 ≤ ad18 := Nat.le_trans sz17 (Nat.le_of_eq g18.symm)
    have sz_ad18 : n0 ≤ h18.size := Nat.le_trans sz17 E18.1
    have F18_groups : Fld Z h18 ad18 "com/example/sieve_for_links/sieveforlinks/VirtualLinks" "groups" "[I" .null := D18 (Or.inr (hw _ (List.mem_of_getElem? (i := 24) rfl))) (ty := (.array .int)) (by decide)
    have F18_shares : Fld Z h18 ad18 "com/example/sieve_for_links/sieveforlinks/VirtualLinks" "shares" "[D" .null := D18 (Or.inr (hw _ (List.mem_of_getElem? (i := 26) rfl))) (ty := (.array .double)) (by decide)
    have F18_members : Fld Z h18 ad18 "com/example/sieve_for_links/sieveforlinks/VirtualLinks" "members" "[I" .null := D18 (Or.inr (hw _ (List.mem_of_getElem? (i := 28) rfl))) (ty := (.array .int)) (by decide)
    have F18_memberStarts : Fld Z h18 ad18 "com/example/sieve_for_links/sieveforlinks/VirtualLinks" "memberStarts" "[I" .null := D18 (Or.inr (hw _ (List.mem_of_getElem? (i := 30) rfl))) (ty := (.array .int)) (by decide)
    refine OwnW.dup (pc' := 104) at_103 rfl rfl ?_
    refine OwnW.aload (pc' := 106) at_104 rfl (rfl) rfl ?_
    refine OwnW.aload (pc' := 108) at_106 rfl (rfl) rfl ?_
    refine OwnW.iconst (pc' := 109) (v := (2 : Int32)) at_108 rfl rfl ?_
    have F19 := ((V12.other W16 (Nat.ne_of_lt lt_ad9_ad10)).ext E18)
    have F20 := (V16.ext E18)
    refine OwnW.callI (a0 := a0) (pc' := 112) (W := 1) (k' := 7) (n' := 17) (argsL := [(.ref ad9), (.ref ad10), (.int (2 : Int32))]) (rest := [(.ref ad18)]) at_109 rfl (hw _ (List.mem_of_getElem? (i := 5) rfl)) (hw _ (List.mem_of_getElem? (i := 6) rfl)) (hw _ (List.mem_of_getElem? (i := 4) rfl)) (hw _ (List.mem_of_getElem? (i := 7) rfl)) (by decide) (rm11 l Z a0 hw ad18 ad9 ad10 kc9 kc10 g0 s0 h18 n0 sz_ad18 ge_ad18 A18 F18_groups F18_shares F18_members F18_memberStarts F19 F20 (own_pk hg0) (own_sh hs0)) (by decide) (by decide) rfl rfl (by decide) (by decide) rfl pd_285bI5bDI29V rfl rfl rfl (Nat.le_of_ble_eq_true rfl) rfl ?_
    rintro h21 v21 ⟨rfl, K21, Fc21_0, Fc21_1⟩
    have sz22 : n0 ≤ h21.size := Nat.le_trans sz_ad18 K21.1
    show GoB0 l Z n0 OwnW.One1 h21 7 17 112 #[.val (.int p0), .val (.int p1), .val (.int p2), .val (.int p3), .val (.int (1 : Int32)), .val (.ref ad9), .val (.ref ad10), .unset, .unset, .unset, .unset] [(.ref ad18)]
    refine OwnW.astore (pc' := 114) (L' := #[.val (.int p0), .val (.int p1), .val (.int p2), .val (.int p3), .val (.int (1 : Int32)), .val (.ref ad9), .val (.ref ad10), .val (.ref ad18), .unset, .unset, .unset]) at_112 (rfl) rfl rfl ?_
    refine OwnW.iloadN (pc' := 115) at_114 rfl rfl ?_
    refine OwnW.iconst (pc' := 116) (v := (2 : Int32)) at_115 rfl rfl ?_
    refine OwnW.iushr (pc' := 117) at_116 rfl ?_
    refine OwnW.iconst (pc' := 118) (v := (3 : Int32)) at_117 rfl rfl ?_
    refine OwnW.iand (pc' := 119) at_118 rfl ?_
    refine OwnW.istore (pc' := 121) (L' := #[.val (.int p0), .val (.int p1), .val (.int p2), .val (.int p3), .val (.int (1 : Int32)), .val (.ref ad9), .val (.ref ad10), .val (.ref ad18), .val (.int (((p0.toUInt32 >>> ((2 : Int32) &&& 31).toUInt32).toInt32) &&& (3 : Int32))), .unset, .unset]) at_119 rfl rfl ?_
    refine OwnW.iload (pc' := 123) at_121 rfl rfl ?_
    suffices J123_166 : ∀ (nn : Int32), nn = (if (((p0.toUInt32 >>> ((2 : Int32) &&& 31).toUInt32).toInt32) &&& (3 : Int32)) = (0 : Int32) then p3 else (if (((p0.toUInt32 >>> ((2 : Int32) &&& 31).toUInt32).toInt32) &&& (3 : Int32)) = (1 : Int32) then (1 : Int32) else (if (((p0.toUInt32 >>> ((2 : Int32) &&& 31).toUInt32).toInt32) &&& (3 : Int32)) = (2 : Int32) then (2 : Int32) else (0 : Int32)))) → GoB0 l Z n0 OwnW.One1 h21 7 17 166 #[.val (.int p0), .val (.int p1), .val (.int p2), .val (.int p3), .val (.int (1 : Int32)), .val (.ref ad9), .val (.ref ad10), .val (.ref ad18), .val (.int (((p0.toUInt32 >>> ((2 : Int32) &&& 31).toUInt32).toInt32) &&& (3 : Int32))), .val (.int nn), .unset] [] by
      by_cases hc123 : (((p0.toUInt32 >>> ((2 : Int32) &&& 31).toUInt32).toInt32) &&& (3 : Int32)) = (0 : Int32)
      ·
        refine OwnW.ifcN (pc' := 126) at_123 ((if0 _ _).trans (teq hc123).2) rfl ?_
        refine OwnW.iloadN (pc' := 127) at_126 rfl rfl ?_
        refine OwnW.istore (pc' := 129) (L' := #[.val (.int p0), .val (.int p1), .val (.int p2), .val (.int p3), .val (.int (1 : Int32)), .val (.ref ad9), .val (.ref ad10), .val (.ref ad18), .val (.int (((p0.toUInt32 >>> ((2 : Int32) &&& 31).toUInt32).toInt32) &&& (3 : Int32))), .val (.int p3), .unset]) at_127 rfl rfl ?_
        refine OwnW.goto (pc' := 166) at_129 (by decide) (by decide) ?_
        exact J123_166 _ (by first | simp only [if_pos hc123] | rfl)
      ·
        refine OwnW.ifcY (pc' := 132) at_123 ((if0 _ _).trans (feq hc123).2) (by decide) (by decide) ?_
        refine OwnW.iload (pc' := 134) at_132 rfl rfl ?_
        refine OwnW.iconst (pc' := 135) (v := (1 : Int32)) at_134 rfl rfl ?_
        by_cases hc135 : (((p0.toUInt32 >>> ((2 : Int32) &&& 31).toUInt32).toInt32) &&& (3 : Int32)) = (1 : Int32)
        ·
          refine OwnW.icmpN (pc' := 138) at_135 (teq hc135).2 rfl ?_
          refine OwnW.iload (pc' := 140) at_138 rfl rfl ?_
          refine OwnW.istore (pc' := 142) (L' := #[.val (.int p0), .val (.int p1), .val (.int p2), .val (.int p3), .val (.int (1 : Int32)), .val (.ref ad9), .val (.ref ad10), .val (.ref ad18), .val (.int (((p0.toUInt32 >>> ((2 : Int32) &&& 31).toUInt32).toInt32) &&& (3 : Int32))), .val (.int (1 : Int32)), .unset]) at_140 rfl rfl ?_
          refine OwnW.goto (pc' := 166) at_142 (by decide) (by decide) ?_
          exact J123_166 _ (by first | simp only [if_neg hc123, if_pos hc135] | rfl)
        ·
          refine OwnW.icmpY (pc' := 145) at_135 (feq hc135).2 (by decide) (by decide) ?_
          refine OwnW.iload (pc' := 147) at_145 rfl rfl ?_
          refine OwnW.iconst (pc' := 148) (v := (2 : Int32)) at_147 rfl rfl ?_
          by_cases hc148 : (((p0.toUInt32 >>> ((2 : Int32) &&& 31).toUInt32).toInt32) &&& (3 : Int32)) = (2 : Int32)
          ·
            refine OwnW.icmpN (pc' := 151) at_148 (teq hc148).2 rfl ?_
            refine OwnW.iload (pc' := 153) at_151 rfl rfl ?_
            refine OwnW.iconst (pc' := 154) (v := (1 : Int32)) at_153 rfl rfl ?_
            refine OwnW.iadd (pc' := 155) at_154 rfl ?_
            show GoB0 l Z n0 OwnW.One1 h21 7 17 155 #[.val (.int p0), .val (.int p1), .val (.int p2), .val (.int p3), .val (.int (1 : Int32)), .val (.ref ad9), .val (.ref ad10), .val (.ref ad18), .val (.int (((p0.toUInt32 >>> ((2 : Int32) &&& 31).toUInt32).toInt32) &&& (3 : Int32))), .unset, .unset] [(.int (2 : Int32))]
            refine OwnW.istore (pc' := 157) (L' := #[.val (.int p0), .val (.int p1), .val (.int p2), .val (.int p3), .val (.int (1 : Int32)), .val (.ref ad9), .val (.ref ad10), .val (.ref ad18), .val (.int (((p0.toUInt32 >>> ((2 : Int32) &&& 31).toUInt32).toInt32) &&& (3 : Int32))), .val (.int (2 : Int32)), .unset]) at_155 rfl rfl ?_
            refine OwnW.goto (pc' := 166) at_157 (by decide) (by decide) ?_
            exact J123_166 _ (by first | simp only [if_neg hc123, if_neg hc135, if_pos hc148] | rfl)
          ·
            refine OwnW.icmpY (pc' := 160) at_148 (feq hc148).2 (by decide) (by decide) ?_
            refine OwnW.iload (pc' := 162) at_160 rfl rfl ?_
            refine OwnW.iconst (pc' := 163) (v := (1 : Int32)) at_162 rfl rfl ?_
            refine OwnW.isub (pc' := 164) at_163 rfl ?_
            show GoB0 l Z n0 OwnW.One1 h21 7 17 164 #[.val (.int p0), .val (.int p1), .val (.int p2), .val (.int p3), .val (.int (1 : Int32)), .val (.ref ad9), .val (.ref ad10), .val (.ref ad18), .val (.int (((p0.toUInt32 >>> ((2 : Int32) &&& 31).toUInt32).toInt32) &&& (3 : Int32))), .unset, .unset] [(.int (0 : Int32))]
            refine OwnW.istore (pc' := 166) (L' := #[.val (.int p0), .val (.int p1), .val (.int p2), .val (.int p3), .val (.int (1 : Int32)), .val (.ref ad9), .val (.ref ad10), .val (.ref ad18), .val (.int (((p0.toUInt32 >>> ((2 : Int32) &&& 31).toUInt32).toInt32) &&& (3 : Int32))), .val (.int (0 : Int32)), .unset]) at_164 rfl rfl ?_
            exact J123_166 _ (by first | simp only [if_neg hc123, if_neg hc135, if_neg hc148] | rfl)
    intro nn hnn
    refine OwnW.iload (pc' := 168) at_166 rfl rfl ?_
    refine OwnW.ifcN (pc' := 171) at_168 ((if0 _ _).trans (feq (by decide)).1) rfl ?_
    refine OwnW.iload (pc' := 173) at_171 rfl rfl ?_
    refine OwnW.iload (pc' := 175) at_173 rfl rfl ?_
    by_cases hc175 : nn = (1 : Int32)
    ·
      refine OwnW.icmpN (pc' := 178) at_175 (teq hc175).2 rfl ?_
      refine OwnW.iconst (pc' := 179) (v := (1 : Int32)) at_178 rfl rfl ?_
      refine OwnW.goto (pc' := 183) at_179 (by decide) (by decide) ?_
      refine OwnW.istore (pc' := 185) (L' := #[.val (.int p0), .val (.int p1), .val (.int p2), .val (.int p3), .val (.int (1 : Int32)), .val (.ref ad9), .val (.ref ad10), .val (.ref ad18), .val (.int (((p0.toUInt32 >>> ((2 : Int32) &&& 31).toUInt32).toInt32) &&& (3 : Int32))), .val (.int nn), .val (.int (1 : Int32))]) at_183 rfl rfl ?_
      refine OwnW.aload (pc' := 187) at_185 rfl (rfl) rfl ?_
      refine OwnW.iload (pc' := 189) at_187 rfl rfl ?_
      have F23 := (F19.keep K21 (ninS (Nat.ne_of_lt lt_ad9_ad18) nin0))
      refine OwnW.callV0 (a0 := a0) (pc' := 192) (W := 0) (k' := 7) (n' := 17) (argsL := [(.int nn)]) (rest := []) (St' := [(.int (f51 ad18 nn ad9 kc9 [(.int g0)]))]) at_189 (hw _ (List.mem_of_getElem? (i := 31) rfl)) (hw _ (List.mem_of_getElem? (i := 32) rfl)) (hw _ (List.mem_of_getElem? (i := 34) rfl)) (hw _ (List.mem_of_getElem? (i := 33) rfl)) (hw _ (List.mem_of_getElem? (i := 4) rfl)) (hw _ (List.mem_of_getElem? (i := 35) rfl)) (by decide) Fc21_0 (rm51 l Z a0 hw ad18 nn ad9 kc9 [(.int g0)] h21 n0 Fc21_1 F23) (by decide) (by decide) rfl rfl (by decide) (by decide) rfl pd_28I29Z rfl rfl rfl (Nat.le_of_ble_eq_true rfl) rfl rfl ?_
      refine OwnW.iload (pc' := 194) at_192 rfl rfl ?_
      refine OwnW.icmpN (pc' := 197) at_194 (teq (if_pos hc175.symm)).2 rfl ?_
      refine OwnW.iconst (pc' := 198) (v := (1 : Int32)) at_197 rfl rfl ?_
      refine OwnW.goto (pc' := 202) at_198 (by decide) (by decide) ?_
      exact OwnW.retN (t := .boolean) at_202 rfl (by simp) rfl (by decide) (by decide) (rfl)
    ·
      refine OwnW.icmpY (pc' := 182) at_175 (feq hc175).2 (by decide) (by decide) ?_
      refine OwnW.iconst (pc' := 183) (v := (0 : Int32)) at_182 rfl rfl ?_
      refine OwnW.istore (pc' := 185) (L' := #[.val (.int p0), .val (.int p1), .val (.int p2), .val (.int p3), .val (.int (1 : Int32)), .val (.ref ad9), .val (.ref ad10), .val (.ref ad18), .val (.int (((p0.toUInt32 >>> ((2 : Int32) &&& 31).toUInt32).toInt32) &&& (3 : Int32))), .val (.int nn), .val (.int (0 : Int32))]) at_183 rfl rfl ?_
      refine OwnW.aload (pc' := 187) at_185 rfl (rfl) rfl ?_
      refine OwnW.iload (pc' := 189) at_187 rfl rfl ?_
      have F24 := (F19.keep K21 (ninS (Nat.ne_of_lt lt_ad9_ad18) nin0))
      refine OwnW.callV0 (a0 := a0) (pc' := 192) (W := 0) (k' := 7) (n' := 17) (argsL := [(.int nn)]) (rest := []) (St' := [(.int (f51 ad18 nn ad9 kc9 [(.int g0)]))]) at_189 (hw _ (List.mem_of_getElem? (i := 31) rfl)) (hw _ (List.mem_of_getElem? (i := 32) rfl)) (hw _ (List.mem_of_getElem? (i := 34) rfl)) (hw _ (List.mem_of_getElem? (i := 33) rfl)) (hw _ (List.mem_of_getElem? (i := 4) rfl)) (hw _ (List.mem_of_getElem? (i := 35) rfl)) (by decide) Fc21_0 (rm51 l Z a0 hw ad18 nn ad9 kc9 [(.int g0)] h21 n0 Fc21_1 F24) (by decide) (by decide) rfl rfl (by decide) (by decide) rfl pd_28I29Z rfl rfl rfl (Nat.le_of_ble_eq_true rfl) rfl rfl ?_
      refine OwnW.iload (pc' := 194) at_192 rfl rfl ?_
      refine OwnW.icmpN (pc' := 197) at_194 (teq (if_neg (fun q => hc175 q.symm))).2 rfl ?_
      refine OwnW.iconst (pc' := 198) (v := (1 : Int32)) at_197 rfl rfl ?_
      refine OwnW.goto (pc' := 202) at_198 (by decide) (by decide) ?_
      exact OwnW.retN (t := .boolean) at_202 rfl (by simp) rfl (by decide) (by decide) (rfl)
  ·
    show GoB0 l Z n0 OwnW.One1 h0 0 0 3 #[.val (.int p0), .val (.int p1), .val (.int p2), .val (.int p3), .unset, .unset, .unset, .unset, .unset, .unset, .unset] [(.int (2 : Int32))]
    refine OwnW.istore (pc' := 5) (L' := #[.val (.int p0), .val (.int p1), .val (.int p2), .val (.int p3), .val (.int (2 : Int32)), .unset, .unset, .unset, .unset, .unset, .unset]) at_3 rfl rfl ?_
    refine OwnW.iload (pc' := 7) at_5 rfl rfl ?_
    refine OwnW.newP (a0 := a0) (pc' := 9) (cap := 2) (k' := 1) (n' := 2) at_7 (hw _ (List.mem_of_getElem? (i := 0) rfl)) (by decide) (by decide) (by decide) rfl rfl (by decide) (by decide) rfl ?_
    intro h25 kc25 ad25 g25 E25 A25
    have ge_ad25 : n0 ≤ ad25 := Nat.le_trans Z0 (Nat.le_of_eq g25.symm)
    have sz_ad25 : n0 ≤ h25.size := Nat.le_trans Z0 E25.1
    have V25 : Arv Z h25 ad25 kc25 .int (2 : Int32) [(.int (0 : Int32)), (.int (0 : Int32))] (.int (0 : Int32)) := (Arv.new A25 (by decide)).pad (pad_rep [] _ 2)
    refine OwnW.astore (pc' := 11) (L' := #[.val (.int p0), .val (.int p1), .val (.int p2), .val (.int p3), .val (.int (2 : Int32)), .val (.ref ad25), .unset, .unset, .unset, .unset, .unset]) at_9 (rfl) rfl rfl ?_
    refine OwnW.iload (pc' := 13) at_11 rfl rfl ?_
    refine OwnW.newP (a0 := a0) (pc' := 15) (cap := 2) (k' := 2) (n' := 4) at_13 (hw _ (List.mem_of_getElem? (i := 1) rfl)) (by decide) (by decide) (by decide) rfl rfl (by decide) (by decide) rfl ?_
    intro h26 kc26 ad26 g26 E26 A26
    have lt_ad25_ad26 : @LT.lt Nat _ ad25 ad26 := Nat.lt_of_lt_of_le (V25).lt (Nat.le_of_eq g26.symm)
    have ge_ad26 : n0 ≤ ad26 := Nat.le_trans sz_ad25 (Nat.le_of_eq g26.symm)
    have sz_ad26 : n0 ≤ h26.size := Nat.le_trans sz_ad25 E26.1
    have V26 : Arv Z h26 ad26 kc26 .double (2 : Int32) [(.double (0 : UInt64)), (.double (0 : UInt64))] (.double (0 : UInt64)) := (Arv.new A26 (by decide)).pad (pad_rep [] _ 2)
    refine OwnW.astore (pc' := 17) (L' := #[.val (.int p0), .val (.int p1), .val (.int p2), .val (.int p3), .val (.int (2 : Int32)), .val (.ref ad25), .val (.ref ad26), .unset, .unset, .unset, .unset]) at_15 (rfl) rfl rfl ?_
    refine OwnW.iload (pc' := 19) at_17 rfl rfl ?_
    refine OwnW.ifcN (pc' := 22) at_19 ((if0 _ _).trans (tlt (by decide)).2.2.2) rfl ?_
    refine OwnW.aload (pc' := 24) at_22 rfl (rfl) rfl ?_
    refine OwnW.iconst (pc' := 25) (v := (0 : Int32)) at_24 rfl rfl ?_
    refine OwnW.iloadN (pc' := 26) at_25 rfl rfl ?_
    refine OwnW.iconst (pc' := 27) (v := (0 : Int32)) at_26 rfl rfl ?_
    refine OwnW.callS0 (a0 := a0) (pc' := 30) (W := 2) (k' := 2) (n' := 4) (argsL := [(.int p1), (.int (0 : Int32))]) (rest := [(.int (0 : Int32)), (.ref ad25)]) (St' := [(.int (f6 p1 (0 : Int32))), (.int (0 : Int32)), (.ref ad25)]) at_27 (hw _ (List.mem_of_getElem? (i := 36) rfl)) (hw _ (List.mem_of_getElem? (i := 37) rfl)) (hw _ (List.mem_of_getElem? (i := 38) rfl)) (hw _ (List.mem_of_getElem? (i := 39) rfl)) (by decide) (rm6 l Z a0 hw p1 (0 : Int32) h26 n0) (by decide) (by decide) rfl rfl (by decide) (by decide) rfl pd_28II29I rfl rfl rfl (Nat.le_of_ble_eq_true rfl) rfl rfl ?_
    obtain ⟨g0, hg0⟩ : ∃ z, z = (f6 p1 (0 : Int32)) := ⟨_, rfl⟩
    rw [← hg0]
    show GoB0 l Z n0 OwnW.One1 h26 2 4 30 #[.val (.int p0), .val (.int p1), .val (.int p2), .val (.int p3), .val (.int (2 : Int32)), .val (.ref ad25), .val (.ref ad26), .unset, .unset, .unset, .unset] [(.int g0), (.int (0 : Int32)), (.ref ad25)]
    have F27 := (V25.ext E26)
    obtain ⟨cl28, Ar28, qk28, Sz28, Mn28, Hv28, Gf28⟩ := id F27
    refine OwnW.stI (pc' := 31) at_30 Ar28 (inb_of Sz28 ⟨by decide, by decide⟩) ge_ad25 rfl ?_
    intro h28 W28
    have sz29 : n0 ≤ h28.size := (by rw [W28.size]; exact sz_ad26)
    have V28 : Arv Z h28 ad25 kc25 .int (2 : Int32) [(.int g0), (.int (0 : Int32))] (.int (0 : Int32)) := Arv.set Ar28 qk28 Sz28 Mn28 Hv28 Gf28 rfl W28 0 rfl (Nat.le_of_ble_eq_true rfl)
    refine OwnW.aload (pc' := 33) at_31 rfl (rfl) rfl ?_
    refine OwnW.iconst (pc' := 34) (v := (0 : Int32)) at_33 rfl rfl ?_
    refine OwnW.aload (pc' := 36) at_34 rfl (rfl) rfl ?_
    refine OwnW.iconst (pc' := 37) (v := (0 : Int32)) at_36 rfl rfl ?_
    obtain ⟨cl30, Ar30, qk30, Sz30, Mn30, Hv30, Gf30⟩ := id V28
    refine OwnW.iaload (pc' := 38) (v := (.int g0)) at_37 Ar30 (inb_of Sz30 ⟨by decide, by decide⟩) (Hv30.at (inb_of Sz30 ⟨by decide, by decide⟩) rfl) rfl ?_
    refine OwnW.iloadN (pc' := 39) at_38 rfl rfl ?_
    refine OwnW.iconst (pc' := 40) (v := (0 : Int32)) at_39 rfl rfl ?_
    refine OwnW.callS0 (a0 := a0) (pc' := 43) (W := 2) (k' := 2) (n' := 4) (argsL := [(.int g0), (.int p2), (.int (0 : Int32))]) (rest := [(.int (0 : Int32)), (.ref ad26)]) (St' := [(.double (f7 g0 p2 (0 : Int32))), (.int (0 : Int32)), (.ref ad26)]) at_40 (hw _ (List.mem_of_getElem? (i := 40) rfl)) (hw _ (List.mem_of_getElem? (i := 41) rfl)) (hw _ (List.mem_of_getElem? (i := 38) rfl)) (hw _ (List.mem_of_getElem? (i := 42) rfl)) (by decide) (rm7 l Z a0 hw g0 p2 (0 : Int32) h28 n0) (by decide) (by decide) rfl rfl (by decide) (by decide) rfl pd_28III29D rfl rfl rfl (Nat.le_of_ble_eq_true rfl) rfl rfl ?_
    obtain ⟨s0, hs0⟩ : ∃ z, z = (f7 g0 p2 (0 : Int32)) := ⟨_, rfl⟩
    rw [← hs0]
    show GoB0 l Z n0 OwnW.One1 h28 2 4 43 #[.val (.int p0), .val (.int p1), .val (.int p2), .val (.int p3), .val (.int (2 : Int32)), .val (.ref ad25), .val (.ref ad26), .unset, .unset, .unset, .unset] [(.double s0), (.int (0 : Int32)), (.ref ad26)]
    have F31 := (V26.other W28 (Ne.symm (Nat.ne_of_lt lt_ad25_ad26)))
    obtain ⟨cl32, Ar32, qk32, Sz32, Mn32, Hv32, Gf32⟩ := id F31
    refine OwnW.stD (pc' := 44) at_43 Ar32 (inb_of Sz32 ⟨by decide, by decide⟩) ge_ad26 rfl ?_
    intro h32 W32
    have sz33 : n0 ≤ h32.size := (by rw [W32.size]; exact sz29)
    have V32 : Arv Z h32 ad26 kc26 .double (2 : Int32) [(.double s0), (.double (0 : UInt64))] (.double (0 : UInt64)) := Arv.set Ar32 qk32 Sz32 Mn32 Hv32 Gf32 rfl W32 0 rfl (Nat.le_of_ble_eq_true rfl)
    refine OwnW.iload (pc' := 46) at_44 rfl rfl ?_
    refine OwnW.iconst (pc' := 47) (v := (1 : Int32)) at_46 rfl rfl ?_
    refine OwnW.icmpN (pc' := 50) at_47 (tlt (by decide)).2.2.2 rfl ?_
    refine OwnW.aload (pc' := 52) at_50 rfl (rfl) rfl ?_
    refine OwnW.iconst (pc' := 53) (v := (1 : Int32)) at_52 rfl rfl ?_
    refine OwnW.iloadN (pc' := 54) at_53 rfl rfl ?_
    refine OwnW.iconst (pc' := 55) (v := (1 : Int32)) at_54 rfl rfl ?_
    refine OwnW.callS0 (a0 := a0) (pc' := 58) (W := 2) (k' := 2) (n' := 4) (argsL := [(.int p1), (.int (1 : Int32))]) (rest := [(.int (1 : Int32)), (.ref ad25)]) (St' := [(.int (f6 p1 (1 : Int32))), (.int (1 : Int32)), (.ref ad25)]) at_55 (hw _ (List.mem_of_getElem? (i := 36) rfl)) (hw _ (List.mem_of_getElem? (i := 37) rfl)) (hw _ (List.mem_of_getElem? (i := 38) rfl)) (hw _ (List.mem_of_getElem? (i := 39) rfl)) (by decide) (rm6 l Z a0 hw p1 (1 : Int32) h32 n0) (by decide) (by decide) rfl rfl (by decide) (by decide) rfl pd_28II29I rfl rfl rfl (Nat.le_of_ble_eq_true rfl) rfl rfl ?_
    obtain ⟨g1, hg1⟩ : ∃ z, z = (f6 p1 (1 : Int32)) := ⟨_, rfl⟩
    rw [← hg1]
    show GoB0 l Z n0 OwnW.One1 h32 2 4 58 #[.val (.int p0), .val (.int p1), .val (.int p2), .val (.int p3), .val (.int (2 : Int32)), .val (.ref ad25), .val (.ref ad26), .unset, .unset, .unset, .unset] [(.int g1), (.int (1 : Int32)), (.ref ad25)]
    have F34 := (V28.other W32 (Nat.ne_of_lt lt_ad25_ad26))
    obtain ⟨cl35, Ar35, qk35, Sz35, Mn35, Hv35, Gf35⟩ := id F34
    refine OwnW.stI (pc' := 59) at_58 Ar35 (inb_of Sz35 ⟨by decide, by decide⟩) ge_ad25 rfl ?_
    intro h35 W35
    have sz36 : n0 ≤ h35.size := (by rw [W35.size]; exact sz33)
    have V35 : Arv Z h35 ad25 kc25 .int (2 : Int32) [(.int g0), (.int g1)] (.int (0 : Int32)) := Arv.set Ar35 qk35 Sz35 Mn35 Hv35 Gf35 rfl W35 1 rfl (Nat.le_of_ble_eq_true rfl)
    refine OwnW.aload (pc' := 61) at_59 rfl (rfl) rfl ?_
    refine OwnW.iconst (pc' := 62) (v := (1 : Int32)) at_61 rfl rfl ?_
    refine OwnW.aload (pc' := 64) at_62 rfl (rfl) rfl ?_
    refine OwnW.iconst (pc' := 65) (v := (1 : Int32)) at_64 rfl rfl ?_
    obtain ⟨cl37, Ar37, qk37, Sz37, Mn37, Hv37, Gf37⟩ := id V35
    refine OwnW.iaload (pc' := 66) (v := (.int g1)) at_65 Ar37 (inb_of Sz37 ⟨by decide, by decide⟩) (Hv37.at (inb_of Sz37 ⟨by decide, by decide⟩) rfl) rfl ?_
    refine OwnW.iloadN (pc' := 67) at_66 rfl rfl ?_
    refine OwnW.iconst (pc' := 68) (v := (1 : Int32)) at_67 rfl rfl ?_
    refine OwnW.callS0 (a0 := a0) (pc' := 71) (W := 2) (k' := 2) (n' := 4) (argsL := [(.int g1), (.int p2), (.int (1 : Int32))]) (rest := [(.int (1 : Int32)), (.ref ad26)]) (St' := [(.double (f7 g1 p2 (1 : Int32))), (.int (1 : Int32)), (.ref ad26)]) at_68 (hw _ (List.mem_of_getElem? (i := 40) rfl)) (hw _ (List.mem_of_getElem? (i := 41) rfl)) (hw _ (List.mem_of_getElem? (i := 38) rfl)) (hw _ (List.mem_of_getElem? (i := 42) rfl)) (by decide) (rm7 l Z a0 hw g1 p2 (1 : Int32) h35 n0) (by decide) (by decide) rfl rfl (by decide) (by decide) rfl pd_28III29D rfl rfl rfl (Nat.le_of_ble_eq_true rfl) rfl rfl ?_
    obtain ⟨s1, hs1⟩ : ∃ z, z = (f7 g1 p2 (1 : Int32)) := ⟨_, rfl⟩
    rw [← hs1]
    show GoB0 l Z n0 OwnW.One1 h35 2 4 71 #[.val (.int p0), .val (.int p1), .val (.int p2), .val (.int p3), .val (.int (2 : Int32)), .val (.ref ad25), .val (.ref ad26), .unset, .unset, .unset, .unset] [(.double s1), (.int (1 : Int32)), (.ref ad26)]
    have F38 := (V32.other W35 (Ne.symm (Nat.ne_of_lt lt_ad25_ad26)))
    obtain ⟨cl39, Ar39, qk39, Sz39, Mn39, Hv39, Gf39⟩ := id F38
    refine OwnW.stD (pc' := 72) at_71 Ar39 (inb_of Sz39 ⟨by decide, by decide⟩) ge_ad26 rfl ?_
    intro h39 W39
    have sz40 : n0 ≤ h39.size := (by rw [W39.size]; exact sz36)
    have V39 : Arv Z h39 ad26 kc26 .double (2 : Int32) [(.double s0), (.double s1)] (.double (0 : UInt64)) := Arv.set Ar39 qk39 Sz39 Mn39 Hv39 Gf39 rfl W39 1 rfl (Nat.le_of_ble_eq_true rfl)
    refine OwnW.iload (pc' := 74) at_72 rfl rfl ?_
    refine OwnW.iconst (pc' := 75) (v := (2 : Int32)) at_74 rfl rfl ?_
    refine OwnW.icmpY (pc' := 100) at_75 (flt (by decide)).2.2.2 (by decide) (by decide) ?_
    refine OwnW.newO (a0 := a0) (pc' := 103) (k' := 3) (n' := 8) at_100 (hw _ (List.mem_of_getElem? (i := 2) rfl)) (hw _ (List.mem_of_getElem? (i := 3) rfl)) (hw _ (List.mem_of_getElem? (i := 4) rfl)) rfl rfl (by decide) (by decide) rfl ?_
    intro h41 ad41 g41 E41 A41 D41
    have lt_ad25_ad41 : @LT.lt Nat _ ad25 ad41 := Nat.lt_of_lt_of_le ((V35.other W39 (Nat.ne_of_lt lt_ad25_ad26))).lt (Nat.le_of_eq g41.symm)
    have lt_ad26_ad41 : @LT.lt Nat _ ad26 ad41 := Nat.lt_of_lt_of_le (V39).lt (Nat.le_of_eq g41.symm)
    have ge_ad41 : n0 ≤ ad41 := Nat.le_trans sz40 (Nat.le_of_eq g41.symm)
    have sz_ad41 : n0 ≤ h41.size := Nat.le_trans sz40 E41.1
    have F41_groups : Fld Z h41 ad41 "com/example/sieve_for_links/sieveforlinks/VirtualLinks" "groups" "[I" .null := D41 (Or.inr (hw _ (List.mem_of_getElem? (i := 24) rfl))) (ty := (.array .int)) (by decide)
    have F41_shares : Fld Z h41 ad41 "com/example/sieve_for_links/sieveforlinks/VirtualLinks" "shares" "[D" .null := D41 (Or.inr (hw _ (List.mem_of_getElem? (i := 26) rfl))) (ty := (.array .double)) (by decide)
    have F41_members : Fld Z h41 ad41 "com/example/sieve_for_links/sieveforlinks/VirtualLinks" "members" "[I" .null := D41 (Or.inr (hw _ (List.mem_of_getElem? (i := 28) rfl))) (ty := (.array .int)) (by decide)
    have F41_memberStarts : Fld Z h41 ad41 "com/example/sieve_for_links/sieveforlinks/VirtualLinks" "memberStarts" "[I" .null := D41 (Or.inr (hw _ (List.mem_of_getElem? (i := 30) rfl))) (ty := (.array .int)) (by decide)
    refine OwnW.dup (pc' := 104) at_103 rfl rfl ?_
    refine OwnW.aload (pc' := 106) at_104 rfl (rfl) rfl ?_
    refine OwnW.aload (pc' := 108) at_106 rfl (rfl) rfl ?_
    refine OwnW.iconst (pc' := 109) (v := (2 : Int32)) at_108 rfl rfl ?_
    have F42 := ((V35.other W39 (Nat.ne_of_lt lt_ad25_ad26)).ext E41)
    have F43 := (V39.ext E41)
    refine OwnW.callI (a0 := a0) (pc' := 112) (W := 1) (k' := 7) (n' := 20) (argsL := [(.ref ad25), (.ref ad26), (.int (2 : Int32))]) (rest := [(.ref ad41)]) at_109 rfl (hw _ (List.mem_of_getElem? (i := 5) rfl)) (hw _ (List.mem_of_getElem? (i := 6) rfl)) (hw _ (List.mem_of_getElem? (i := 4) rfl)) (hw _ (List.mem_of_getElem? (i := 7) rfl)) (by decide) (rm12 l Z a0 hw ad41 ad25 ad26 kc25 kc26 g0 g1 s0 s1 h41 n0 sz_ad41 ge_ad41 A41 F41_groups F41_shares F41_members F41_memberStarts F42 F43 (own_pk hg0) (own_pk hg1) (own_sh hs0) (own_sh hs1)) (by decide) (by decide) rfl rfl (by decide) (by decide) rfl pd_285bI5bDI29V rfl rfl rfl (Nat.le_of_ble_eq_true rfl) rfl ?_
    rintro h44 v44 ⟨rfl, K44, Fc44_0, Fc44_1⟩
    have sz45 : n0 ≤ h44.size := Nat.le_trans sz_ad41 K44.1
    show GoB0 l Z n0 OwnW.One1 h44 7 20 112 #[.val (.int p0), .val (.int p1), .val (.int p2), .val (.int p3), .val (.int (2 : Int32)), .val (.ref ad25), .val (.ref ad26), .unset, .unset, .unset, .unset] [(.ref ad41)]
    refine OwnW.astore (pc' := 114) (L' := #[.val (.int p0), .val (.int p1), .val (.int p2), .val (.int p3), .val (.int (2 : Int32)), .val (.ref ad25), .val (.ref ad26), .val (.ref ad41), .unset, .unset, .unset]) at_112 (rfl) rfl rfl ?_
    refine OwnW.iloadN (pc' := 115) at_114 rfl rfl ?_
    refine OwnW.iconst (pc' := 116) (v := (2 : Int32)) at_115 rfl rfl ?_
    refine OwnW.iushr (pc' := 117) at_116 rfl ?_
    refine OwnW.iconst (pc' := 118) (v := (3 : Int32)) at_117 rfl rfl ?_
    refine OwnW.iand (pc' := 119) at_118 rfl ?_
    refine OwnW.istore (pc' := 121) (L' := #[.val (.int p0), .val (.int p1), .val (.int p2), .val (.int p3), .val (.int (2 : Int32)), .val (.ref ad25), .val (.ref ad26), .val (.ref ad41), .val (.int (((p0.toUInt32 >>> ((2 : Int32) &&& 31).toUInt32).toInt32) &&& (3 : Int32))), .unset, .unset]) at_119 rfl rfl ?_
    refine OwnW.iload (pc' := 123) at_121 rfl rfl ?_
    suffices J123_166 : ∀ (nn : Int32), nn = (if (((p0.toUInt32 >>> ((2 : Int32) &&& 31).toUInt32).toInt32) &&& (3 : Int32)) = (0 : Int32) then p3 else (if (((p0.toUInt32 >>> ((2 : Int32) &&& 31).toUInt32).toInt32) &&& (3 : Int32)) = (1 : Int32) then (2 : Int32) else (if (((p0.toUInt32 >>> ((2 : Int32) &&& 31).toUInt32).toInt32) &&& (3 : Int32)) = (2 : Int32) then (3 : Int32) else (1 : Int32)))) → GoB0 l Z n0 OwnW.One1 h44 7 20 166 #[.val (.int p0), .val (.int p1), .val (.int p2), .val (.int p3), .val (.int (2 : Int32)), .val (.ref ad25), .val (.ref ad26), .val (.ref ad41), .val (.int (((p0.toUInt32 >>> ((2 : Int32) &&& 31).toUInt32).toInt32) &&& (3 : Int32))), .val (.int nn), .unset] [] by
      by_cases hc123 : (((p0.toUInt32 >>> ((2 : Int32) &&& 31).toUInt32).toInt32) &&& (3 : Int32)) = (0 : Int32)
      ·
        refine OwnW.ifcN (pc' := 126) at_123 ((if0 _ _).trans (teq hc123).2) rfl ?_
        refine OwnW.iloadN (pc' := 127) at_126 rfl rfl ?_
        refine OwnW.istore (pc' := 129) (L' := #[.val (.int p0), .val (.int p1), .val (.int p2), .val (.int p3), .val (.int (2 : Int32)), .val (.ref ad25), .val (.ref ad26), .val (.ref ad41), .val (.int (((p0.toUInt32 >>> ((2 : Int32) &&& 31).toUInt32).toInt32) &&& (3 : Int32))), .val (.int p3), .unset]) at_127 rfl rfl ?_
        refine OwnW.goto (pc' := 166) at_129 (by decide) (by decide) ?_
        exact J123_166 _ (by first | simp only [if_pos hc123] | rfl)
      ·
        refine OwnW.ifcY (pc' := 132) at_123 ((if0 _ _).trans (feq hc123).2) (by decide) (by decide) ?_
        refine OwnW.iload (pc' := 134) at_132 rfl rfl ?_
        refine OwnW.iconst (pc' := 135) (v := (1 : Int32)) at_134 rfl rfl ?_
        by_cases hc135 : (((p0.toUInt32 >>> ((2 : Int32) &&& 31).toUInt32).toInt32) &&& (3 : Int32)) = (1 : Int32)
        ·
          refine OwnW.icmpN (pc' := 138) at_135 (teq hc135).2 rfl ?_
          refine OwnW.iload (pc' := 140) at_138 rfl rfl ?_
          refine OwnW.istore (pc' := 142) (L' := #[.val (.int p0), .val (.int p1), .val (.int p2), .val (.int p3), .val (.int (2 : Int32)), .val (.ref ad25), .val (.ref ad26), .val (.ref ad41), .val (.int (((p0.toUInt32 >>> ((2 : Int32) &&& 31).toUInt32).toInt32) &&& (3 : Int32))), .val (.int (2 : Int32)), .unset]) at_140 rfl rfl ?_
          refine OwnW.goto (pc' := 166) at_142 (by decide) (by decide) ?_
          exact J123_166 _ (by first | simp only [if_neg hc123, if_pos hc135] | rfl)
        ·
          refine OwnW.icmpY (pc' := 145) at_135 (feq hc135).2 (by decide) (by decide) ?_
          refine OwnW.iload (pc' := 147) at_145 rfl rfl ?_
          refine OwnW.iconst (pc' := 148) (v := (2 : Int32)) at_147 rfl rfl ?_
          by_cases hc148 : (((p0.toUInt32 >>> ((2 : Int32) &&& 31).toUInt32).toInt32) &&& (3 : Int32)) = (2 : Int32)
          ·
            refine OwnW.icmpN (pc' := 151) at_148 (teq hc148).2 rfl ?_
            refine OwnW.iload (pc' := 153) at_151 rfl rfl ?_
            refine OwnW.iconst (pc' := 154) (v := (1 : Int32)) at_153 rfl rfl ?_
            refine OwnW.iadd (pc' := 155) at_154 rfl ?_
            show GoB0 l Z n0 OwnW.One1 h44 7 20 155 #[.val (.int p0), .val (.int p1), .val (.int p2), .val (.int p3), .val (.int (2 : Int32)), .val (.ref ad25), .val (.ref ad26), .val (.ref ad41), .val (.int (((p0.toUInt32 >>> ((2 : Int32) &&& 31).toUInt32).toInt32) &&& (3 : Int32))), .unset, .unset] [(.int (3 : Int32))]
            refine OwnW.istore (pc' := 157) (L' := #[.val (.int p0), .val (.int p1), .val (.int p2), .val (.int p3), .val (.int (2 : Int32)), .val (.ref ad25), .val (.ref ad26), .val (.ref ad41), .val (.int (((p0.toUInt32 >>> ((2 : Int32) &&& 31).toUInt32).toInt32) &&& (3 : Int32))), .val (.int (3 : Int32)), .unset]) at_155 rfl rfl ?_
            refine OwnW.goto (pc' := 166) at_157 (by decide) (by decide) ?_
            exact J123_166 _ (by first | simp only [if_neg hc123, if_neg hc135, if_pos hc148] | rfl)
          ·
            refine OwnW.icmpY (pc' := 160) at_148 (feq hc148).2 (by decide) (by decide) ?_
            refine OwnW.iload (pc' := 162) at_160 rfl rfl ?_
            refine OwnW.iconst (pc' := 163) (v := (1 : Int32)) at_162 rfl rfl ?_
            refine OwnW.isub (pc' := 164) at_163 rfl ?_
            show GoB0 l Z n0 OwnW.One1 h44 7 20 164 #[.val (.int p0), .val (.int p1), .val (.int p2), .val (.int p3), .val (.int (2 : Int32)), .val (.ref ad25), .val (.ref ad26), .val (.ref ad41), .val (.int (((p0.toUInt32 >>> ((2 : Int32) &&& 31).toUInt32).toInt32) &&& (3 : Int32))), .unset, .unset] [(.int (1 : Int32))]
            refine OwnW.istore (pc' := 166) (L' := #[.val (.int p0), .val (.int p1), .val (.int p2), .val (.int p3), .val (.int (2 : Int32)), .val (.ref ad25), .val (.ref ad26), .val (.ref ad41), .val (.int (((p0.toUInt32 >>> ((2 : Int32) &&& 31).toUInt32).toInt32) &&& (3 : Int32))), .val (.int (1 : Int32)), .unset]) at_164 rfl rfl ?_
            exact J123_166 _ (by first | simp only [if_neg hc123, if_neg hc135, if_neg hc148] | rfl)
    intro nn hnn
    refine OwnW.iload (pc' := 168) at_166 rfl rfl ?_
    refine OwnW.ifcN (pc' := 171) at_168 ((if0 _ _).trans (feq (by decide)).1) rfl ?_
    refine OwnW.iload (pc' := 173) at_171 rfl rfl ?_
    refine OwnW.iload (pc' := 175) at_173 rfl rfl ?_
    by_cases hc175 : nn = (2 : Int32)
    ·
      refine OwnW.icmpN (pc' := 178) at_175 (teq hc175).2 rfl ?_
      refine OwnW.iconst (pc' := 179) (v := (1 : Int32)) at_178 rfl rfl ?_
      refine OwnW.goto (pc' := 183) at_179 (by decide) (by decide) ?_
      refine OwnW.istore (pc' := 185) (L' := #[.val (.int p0), .val (.int p1), .val (.int p2), .val (.int p3), .val (.int (2 : Int32)), .val (.ref ad25), .val (.ref ad26), .val (.ref ad41), .val (.int (((p0.toUInt32 >>> ((2 : Int32) &&& 31).toUInt32).toInt32) &&& (3 : Int32))), .val (.int nn), .val (.int (1 : Int32))]) at_183 rfl rfl ?_
      refine OwnW.aload (pc' := 187) at_185 rfl (rfl) rfl ?_
      refine OwnW.iload (pc' := 189) at_187 rfl rfl ?_
      have F46 := (F42.keep K44 (ninS (Nat.ne_of_lt lt_ad25_ad41) nin0))
      refine OwnW.callV0 (a0 := a0) (pc' := 192) (W := 0) (k' := 7) (n' := 20) (argsL := [(.int nn)]) (rest := []) (St' := [(.int (f52 ad41 nn ad25 kc25 [(.int g0), (.int g1)]))]) at_189 (hw _ (List.mem_of_getElem? (i := 31) rfl)) (hw _ (List.mem_of_getElem? (i := 32) rfl)) (hw _ (List.mem_of_getElem? (i := 34) rfl)) (hw _ (List.mem_of_getElem? (i := 33) rfl)) (hw _ (List.mem_of_getElem? (i := 4) rfl)) (hw _ (List.mem_of_getElem? (i := 35) rfl)) (by decide) Fc44_0 (rm52 l Z a0 hw ad41 nn ad25 kc25 [(.int g0), (.int g1)] h44 n0 Fc44_1 F46) (by decide) (by decide) rfl rfl (by decide) (by decide) rfl pd_28I29Z rfl rfl rfl (Nat.le_of_ble_eq_true rfl) rfl rfl ?_
      refine OwnW.iload (pc' := 194) at_192 rfl rfl ?_
      refine OwnW.icmpN (pc' := 197) at_194 (teq (if_pos hc175.symm)).2 rfl ?_
      refine OwnW.iconst (pc' := 198) (v := (1 : Int32)) at_197 rfl rfl ?_
      refine OwnW.goto (pc' := 202) at_198 (by decide) (by decide) ?_
      exact OwnW.retN (t := .boolean) at_202 rfl (by simp) rfl (by decide) (by decide) (rfl)
    ·
      refine OwnW.icmpY (pc' := 182) at_175 (feq hc175).2 (by decide) (by decide) ?_
      refine OwnW.iconst (pc' := 183) (v := (0 : Int32)) at_182 rfl rfl ?_
      refine OwnW.istore (pc' := 185) (L' := #[.val (.int p0), .val (.int p1), .val (.int p2), .val (.int p3), .val (.int (2 : Int32)), .val (.ref ad25), .val (.ref ad26), .val (.ref ad41), .val (.int (((p0.toUInt32 >>> ((2 : Int32) &&& 31).toUInt32).toInt32) &&& (3 : Int32))), .val (.int nn), .val (.int (0 : Int32))]) at_183 rfl rfl ?_
      refine OwnW.aload (pc' := 187) at_185 rfl (rfl) rfl ?_
      refine OwnW.iload (pc' := 189) at_187 rfl rfl ?_
      have F47 := (F42.keep K44 (ninS (Nat.ne_of_lt lt_ad25_ad41) nin0))
      refine OwnW.callV0 (a0 := a0) (pc' := 192) (W := 0) (k' := 7) (n' := 20) (argsL := [(.int nn)]) (rest := []) (St' := [(.int (f52 ad41 nn ad25 kc25 [(.int g0), (.int g1)]))]) at_189 (hw _ (List.mem_of_getElem? (i := 31) rfl)) (hw _ (List.mem_of_getElem? (i := 32) rfl)) (hw _ (List.mem_of_getElem? (i := 34) rfl)) (hw _ (List.mem_of_getElem? (i := 33) rfl)) (hw _ (List.mem_of_getElem? (i := 4) rfl)) (hw _ (List.mem_of_getElem? (i := 35) rfl)) (by decide) Fc44_0 (rm52 l Z a0 hw ad41 nn ad25 kc25 [(.int g0), (.int g1)] h44 n0 Fc44_1 F47) (by decide) (by decide) rfl rfl (by decide) (by decide) rfl pd_28I29Z rfl rfl rfl (Nat.le_of_ble_eq_true rfl) rfl rfl ?_
      refine OwnW.iload (pc' := 194) at_192 rfl rfl ?_
      refine OwnW.icmpN (pc' := 197) at_194 (teq (if_neg (fun q => hc175 q.symm))).2 rfl ?_
      refine OwnW.iconst (pc' := 198) (v := (1 : Int32)) at_197 rfl rfl ?_
      refine OwnW.goto (pc' := 202) at_198 (by decide) (by decide) ?_
      exact OwnW.retN (t := .boolean) at_202 rfl (by simp) rfl (by decide) (by decide) (rfl)
  ·
    show GoB0 l Z n0 OwnW.One1 h0 0 0 3 #[.val (.int p0), .val (.int p1), .val (.int p2), .val (.int p3), .unset, .unset, .unset, .unset, .unset, .unset, .unset] [(.int (3 : Int32))]
    refine OwnW.istore (pc' := 5) (L' := #[.val (.int p0), .val (.int p1), .val (.int p2), .val (.int p3), .val (.int (3 : Int32)), .unset, .unset, .unset, .unset, .unset, .unset]) at_3 rfl rfl ?_
    refine OwnW.iload (pc' := 7) at_5 rfl rfl ?_
    refine OwnW.newP (a0 := a0) (pc' := 9) (cap := 3) (k' := 1) (n' := 3) at_7 (hw _ (List.mem_of_getElem? (i := 0) rfl)) (by decide) (by decide) (by decide) rfl rfl (by decide) (by decide) rfl ?_
    intro h48 kc48 ad48 g48 E48 A48
    have ge_ad48 : n0 ≤ ad48 := Nat.le_trans Z0 (Nat.le_of_eq g48.symm)
    have sz_ad48 : n0 ≤ h48.size := Nat.le_trans Z0 E48.1
    have V48 : Arv Z h48 ad48 kc48 .int (3 : Int32) [(.int (0 : Int32)), (.int (0 : Int32)), (.int (0 : Int32))] (.int (0 : Int32)) := (Arv.new A48 (by decide)).pad (pad_rep [] _ 3)
    refine OwnW.astore (pc' := 11) (L' := #[.val (.int p0), .val (.int p1), .val (.int p2), .val (.int p3), .val (.int (3 : Int32)), .val (.ref ad48), .unset, .unset, .unset, .unset, .unset]) at_9 (rfl) rfl rfl ?_
    refine OwnW.iload (pc' := 13) at_11 rfl rfl ?_
    refine OwnW.newP (a0 := a0) (pc' := 15) (cap := 3) (k' := 2) (n' := 6) at_13 (hw _ (List.mem_of_getElem? (i := 1) rfl)) (by decide) (by decide) (by decide) rfl rfl (by decide) (by decide) rfl ?_
    intro h49 kc49 ad49 g49 E49 A49
    have lt_ad48_ad49 : @LT.lt Nat _ ad48 ad49 := Nat.lt_of_lt_of_le (V48).lt (Nat.le_of_eq g49.symm)
    have ge_ad49 : n0 ≤ ad49 := Nat.le_trans sz_ad48 (Nat.le_of_eq g49.symm)
    have sz_ad49 : n0 ≤ h49.size := Nat.le_trans sz_ad48 E49.1
    have V49 : Arv Z h49 ad49 kc49 .double (3 : Int32) [(.double (0 : UInt64)), (.double (0 : UInt64)), (.double (0 : UInt64))] (.double (0 : UInt64)) := (Arv.new A49 (by decide)).pad (pad_rep [] _ 3)
    refine OwnW.astore (pc' := 17) (L' := #[.val (.int p0), .val (.int p1), .val (.int p2), .val (.int p3), .val (.int (3 : Int32)), .val (.ref ad48), .val (.ref ad49), .unset, .unset, .unset, .unset]) at_15 (rfl) rfl rfl ?_
    refine OwnW.iload (pc' := 19) at_17 rfl rfl ?_
    refine OwnW.ifcN (pc' := 22) at_19 ((if0 _ _).trans (tlt (by decide)).2.2.2) rfl ?_
    refine OwnW.aload (pc' := 24) at_22 rfl (rfl) rfl ?_
    refine OwnW.iconst (pc' := 25) (v := (0 : Int32)) at_24 rfl rfl ?_
    refine OwnW.iloadN (pc' := 26) at_25 rfl rfl ?_
    refine OwnW.iconst (pc' := 27) (v := (0 : Int32)) at_26 rfl rfl ?_
    refine OwnW.callS0 (a0 := a0) (pc' := 30) (W := 2) (k' := 2) (n' := 6) (argsL := [(.int p1), (.int (0 : Int32))]) (rest := [(.int (0 : Int32)), (.ref ad48)]) (St' := [(.int (f6 p1 (0 : Int32))), (.int (0 : Int32)), (.ref ad48)]) at_27 (hw _ (List.mem_of_getElem? (i := 36) rfl)) (hw _ (List.mem_of_getElem? (i := 37) rfl)) (hw _ (List.mem_of_getElem? (i := 38) rfl)) (hw _ (List.mem_of_getElem? (i := 39) rfl)) (by decide) (rm6 l Z a0 hw p1 (0 : Int32) h49 n0) (by decide) (by decide) rfl rfl (by decide) (by decide) rfl pd_28II29I rfl rfl rfl (Nat.le_of_ble_eq_true rfl) rfl rfl ?_
    obtain ⟨g0, hg0⟩ : ∃ z, z = (f6 p1 (0 : Int32)) := ⟨_, rfl⟩
    rw [← hg0]
    show GoB0 l Z n0 OwnW.One1 h49 2 6 30 #[.val (.int p0), .val (.int p1), .val (.int p2), .val (.int p3), .val (.int (3 : Int32)), .val (.ref ad48), .val (.ref ad49), .unset, .unset, .unset, .unset] [(.int g0), (.int (0 : Int32)), (.ref ad48)]
    have F50 := (V48.ext E49)
    obtain ⟨cl51, Ar51, qk51, Sz51, Mn51, Hv51, Gf51⟩ := id F50
    refine OwnW.stI (pc' := 31) at_30 Ar51 (inb_of Sz51 ⟨by decide, by decide⟩) ge_ad48 rfl ?_
    intro h51 W51
    have sz52 : n0 ≤ h51.size := (by rw [W51.size]; exact sz_ad49)
    have V51 : Arv Z h51 ad48 kc48 .int (3 : Int32) [(.int g0), (.int (0 : Int32)), (.int (0 : Int32))] (.int (0 : Int32)) := Arv.set Ar51 qk51 Sz51 Mn51 Hv51 Gf51 rfl W51 0 rfl (Nat.le_of_ble_eq_true rfl)
    refine OwnW.aload (pc' := 33) at_31 rfl (rfl) rfl ?_
    refine OwnW.iconst (pc' := 34) (v := (0 : Int32)) at_33 rfl rfl ?_
    refine OwnW.aload (pc' := 36) at_34 rfl (rfl) rfl ?_
    refine OwnW.iconst (pc' := 37) (v := (0 : Int32)) at_36 rfl rfl ?_
    obtain ⟨cl53, Ar53, qk53, Sz53, Mn53, Hv53, Gf53⟩ := id V51
    refine OwnW.iaload (pc' := 38) (v := (.int g0)) at_37 Ar53 (inb_of Sz53 ⟨by decide, by decide⟩) (Hv53.at (inb_of Sz53 ⟨by decide, by decide⟩) rfl) rfl ?_
    refine OwnW.iloadN (pc' := 39) at_38 rfl rfl ?_
    refine OwnW.iconst (pc' := 40) (v := (0 : Int32)) at_39 rfl rfl ?_
    refine OwnW.callS0 (a0 := a0) (pc' := 43) (W := 2) (k' := 2) (n' := 6) (argsL := [(.int g0), (.int p2), (.int (0 : Int32))]) (rest := [(.int (0 : Int32)), (.ref ad49)]) (St' := [(.double (f7 g0 p2 (0 : Int32))), (.int (0 : Int32)), (.ref ad49)]) at_40 (hw _ (List.mem_of_getElem? (i := 40) rfl)) (hw _ (List.mem_of_getElem? (i := 41) rfl)) (hw _ (List.mem_of_getElem? (i := 38) rfl)) (hw _ (List.mem_of_getElem? (i := 42) rfl)) (by decide) (rm7 l Z a0 hw g0 p2 (0 : Int32) h51 n0) (by decide) (by decide) rfl rfl (by decide) (by decide) rfl pd_28III29D rfl rfl rfl (Nat.le_of_ble_eq_true rfl) rfl rfl ?_
    obtain ⟨s0, hs0⟩ : ∃ z, z = (f7 g0 p2 (0 : Int32)) := ⟨_, rfl⟩
    rw [← hs0]
    show GoB0 l Z n0 OwnW.One1 h51 2 6 43 #[.val (.int p0), .val (.int p1), .val (.int p2), .val (.int p3), .val (.int (3 : Int32)), .val (.ref ad48), .val (.ref ad49), .unset, .unset, .unset, .unset] [(.double s0), (.int (0 : Int32)), (.ref ad49)]
    have F54 := (V49.other W51 (Ne.symm (Nat.ne_of_lt lt_ad48_ad49)))
    obtain ⟨cl55, Ar55, qk55, Sz55, Mn55, Hv55, Gf55⟩ := id F54
    refine OwnW.stD (pc' := 44) at_43 Ar55 (inb_of Sz55 ⟨by decide, by decide⟩) ge_ad49 rfl ?_
    intro h55 W55
    have sz56 : n0 ≤ h55.size := (by rw [W55.size]; exact sz52)
    have V55 : Arv Z h55 ad49 kc49 .double (3 : Int32) [(.double s0), (.double (0 : UInt64)), (.double (0 : UInt64))] (.double (0 : UInt64)) := Arv.set Ar55 qk55 Sz55 Mn55 Hv55 Gf55 rfl W55 0 rfl (Nat.le_of_ble_eq_true rfl)
    refine OwnW.iload (pc' := 46) at_44 rfl rfl ?_
    refine OwnW.iconst (pc' := 47) (v := (1 : Int32)) at_46 rfl rfl ?_
    refine OwnW.icmpN (pc' := 50) at_47 (tlt (by decide)).2.2.2 rfl ?_
    refine OwnW.aload (pc' := 52) at_50 rfl (rfl) rfl ?_
    refine OwnW.iconst (pc' := 53) (v := (1 : Int32)) at_52 rfl rfl ?_
    refine OwnW.iloadN (pc' := 54) at_53 rfl rfl ?_
    refine OwnW.iconst (pc' := 55) (v := (1 : Int32)) at_54 rfl rfl ?_
    refine OwnW.callS0 (a0 := a0) (pc' := 58) (W := 2) (k' := 2) (n' := 6) (argsL := [(.int p1), (.int (1 : Int32))]) (rest := [(.int (1 : Int32)), (.ref ad48)]) (St' := [(.int (f6 p1 (1 : Int32))), (.int (1 : Int32)), (.ref ad48)]) at_55 (hw _ (List.mem_of_getElem? (i := 36) rfl)) (hw _ (List.mem_of_getElem? (i := 37) rfl)) (hw _ (List.mem_of_getElem? (i := 38) rfl)) (hw _ (List.mem_of_getElem? (i := 39) rfl)) (by decide) (rm6 l Z a0 hw p1 (1 : Int32) h55 n0) (by decide) (by decide) rfl rfl (by decide) (by decide) rfl pd_28II29I rfl rfl rfl (Nat.le_of_ble_eq_true rfl) rfl rfl ?_
    obtain ⟨g1, hg1⟩ : ∃ z, z = (f6 p1 (1 : Int32)) := ⟨_, rfl⟩
    rw [← hg1]
    show GoB0 l Z n0 OwnW.One1 h55 2 6 58 #[.val (.int p0), .val (.int p1), .val (.int p2), .val (.int p3), .val (.int (3 : Int32)), .val (.ref ad48), .val (.ref ad49), .unset, .unset, .unset, .unset] [(.int g1), (.int (1 : Int32)), (.ref ad48)]
    have F57 := (V51.other W55 (Nat.ne_of_lt lt_ad48_ad49))
    obtain ⟨cl58, Ar58, qk58, Sz58, Mn58, Hv58, Gf58⟩ := id F57
    refine OwnW.stI (pc' := 59) at_58 Ar58 (inb_of Sz58 ⟨by decide, by decide⟩) ge_ad48 rfl ?_
    intro h58 W58
    have sz59 : n0 ≤ h58.size := (by rw [W58.size]; exact sz56)
    have V58 : Arv Z h58 ad48 kc48 .int (3 : Int32) [(.int g0), (.int g1), (.int (0 : Int32))] (.int (0 : Int32)) := Arv.set Ar58 qk58 Sz58 Mn58 Hv58 Gf58 rfl W58 1 rfl (Nat.le_of_ble_eq_true rfl)
    refine OwnW.aload (pc' := 61) at_59 rfl (rfl) rfl ?_
    refine OwnW.iconst (pc' := 62) (v := (1 : Int32)) at_61 rfl rfl ?_
    refine OwnW.aload (pc' := 64) at_62 rfl (rfl) rfl ?_
    refine OwnW.iconst (pc' := 65) (v := (1 : Int32)) at_64 rfl rfl ?_
    obtain ⟨cl60, Ar60, qk60, Sz60, Mn60, Hv60, Gf60⟩ := id V58
    refine OwnW.iaload (pc' := 66) (v := (.int g1)) at_65 Ar60 (inb_of Sz60 ⟨by decide, by decide⟩) (Hv60.at (inb_of Sz60 ⟨by decide, by decide⟩) rfl) rfl ?_
    refine OwnW.iloadN (pc' := 67) at_66 rfl rfl ?_
    refine OwnW.iconst (pc' := 68) (v := (1 : Int32)) at_67 rfl rfl ?_
    refine OwnW.callS0 (a0 := a0) (pc' := 71) (W := 2) (k' := 2) (n' := 6) (argsL := [(.int g1), (.int p2), (.int (1 : Int32))]) (rest := [(.int (1 : Int32)), (.ref ad49)]) (St' := [(.double (f7 g1 p2 (1 : Int32))), (.int (1 : Int32)), (.ref ad49)]) at_68 (hw _ (List.mem_of_getElem? (i := 40) rfl)) (hw _ (List.mem_of_getElem? (i := 41) rfl)) (hw _ (List.mem_of_getElem? (i := 38) rfl)) (hw _ (List.mem_of_getElem? (i := 42) rfl)) (by decide) (rm7 l Z a0 hw g1 p2 (1 : Int32) h58 n0) (by decide) (by decide) rfl rfl (by decide) (by decide) rfl pd_28III29D rfl rfl rfl (Nat.le_of_ble_eq_true rfl) rfl rfl ?_
    obtain ⟨s1, hs1⟩ : ∃ z, z = (f7 g1 p2 (1 : Int32)) := ⟨_, rfl⟩
    rw [← hs1]
    show GoB0 l Z n0 OwnW.One1 h58 2 6 71 #[.val (.int p0), .val (.int p1), .val (.int p2), .val (.int p3), .val (.int (3 : Int32)), .val (.ref ad48), .val (.ref ad49), .unset, .unset, .unset, .unset] [(.double s1), (.int (1 : Int32)), (.ref ad49)]
    have F61 := (V55.other W58 (Ne.symm (Nat.ne_of_lt lt_ad48_ad49)))
    obtain ⟨cl62, Ar62, qk62, Sz62, Mn62, Hv62, Gf62⟩ := id F61
    refine OwnW.stD (pc' := 72) at_71 Ar62 (inb_of Sz62 ⟨by decide, by decide⟩) ge_ad49 rfl ?_
    intro h62 W62
    have sz63 : n0 ≤ h62.size := (by rw [W62.size]; exact sz59)
    have V62 : Arv Z h62 ad49 kc49 .double (3 : Int32) [(.double s0), (.double s1), (.double (0 : UInt64))] (.double (0 : UInt64)) := Arv.set Ar62 qk62 Sz62 Mn62 Hv62 Gf62 rfl W62 1 rfl (Nat.le_of_ble_eq_true rfl)
    refine OwnW.iload (pc' := 74) at_72 rfl rfl ?_
    refine OwnW.iconst (pc' := 75) (v := (2 : Int32)) at_74 rfl rfl ?_
    refine OwnW.icmpN (pc' := 78) at_75 (tlt (by decide)).2.2.2 rfl ?_
    refine OwnW.aload (pc' := 80) at_78 rfl (rfl) rfl ?_
    refine OwnW.iconst (pc' := 81) (v := (2 : Int32)) at_80 rfl rfl ?_
    refine OwnW.iloadN (pc' := 82) at_81 rfl rfl ?_
    refine OwnW.iconst (pc' := 83) (v := (2 : Int32)) at_82 rfl rfl ?_
    refine OwnW.callS0 (a0 := a0) (pc' := 86) (W := 2) (k' := 2) (n' := 6) (argsL := [(.int p1), (.int (2 : Int32))]) (rest := [(.int (2 : Int32)), (.ref ad48)]) (St' := [(.int (f6 p1 (2 : Int32))), (.int (2 : Int32)), (.ref ad48)]) at_83 (hw _ (List.mem_of_getElem? (i := 36) rfl)) (hw _ (List.mem_of_getElem? (i := 37) rfl)) (hw _ (List.mem_of_getElem? (i := 38) rfl)) (hw _ (List.mem_of_getElem? (i := 39) rfl)) (by decide) (rm6 l Z a0 hw p1 (2 : Int32) h62 n0) (by decide) (by decide) rfl rfl (by decide) (by decide) rfl pd_28II29I rfl rfl rfl (Nat.le_of_ble_eq_true rfl) rfl rfl ?_
    obtain ⟨g2, hg2⟩ : ∃ z, z = (f6 p1 (2 : Int32)) := ⟨_, rfl⟩
    rw [← hg2]
    show GoB0 l Z n0 OwnW.One1 h62 2 6 86 #[.val (.int p0), .val (.int p1), .val (.int p2), .val (.int p3), .val (.int (3 : Int32)), .val (.ref ad48), .val (.ref ad49), .unset, .unset, .unset, .unset] [(.int g2), (.int (2 : Int32)), (.ref ad48)]
    have F64 := (V58.other W62 (Nat.ne_of_lt lt_ad48_ad49))
    obtain ⟨cl65, Ar65, qk65, Sz65, Mn65, Hv65, Gf65⟩ := id F64
    refine OwnW.stI (pc' := 87) at_86 Ar65 (inb_of Sz65 ⟨by decide, by decide⟩) ge_ad48 rfl ?_
    intro h65 W65
    have sz66 : n0 ≤ h65.size := (by rw [W65.size]; exact sz63)
    have V65 : Arv Z h65 ad48 kc48 .int (3 : Int32) [(.int g0), (.int g1), (.int g2)] (.int (0 : Int32)) := Arv.set Ar65 qk65 Sz65 Mn65 Hv65 Gf65 rfl W65 2 rfl (Nat.le_of_ble_eq_true rfl)
    refine OwnW.aload (pc' := 89) at_87 rfl (rfl) rfl ?_
    refine OwnW.iconst (pc' := 90) (v := (2 : Int32)) at_89 rfl rfl ?_
    refine OwnW.aload (pc' := 92) at_90 rfl (rfl) rfl ?_
    refine OwnW.iconst (pc' := 93) (v := (2 : Int32)) at_92 rfl rfl ?_
    obtain ⟨cl67, Ar67, qk67, Sz67, Mn67, Hv67, Gf67⟩ := id V65
    refine OwnW.iaload (pc' := 94) (v := (.int g2)) at_93 Ar67 (inb_of Sz67 ⟨by decide, by decide⟩) (Hv67.at (inb_of Sz67 ⟨by decide, by decide⟩) rfl) rfl ?_
    refine OwnW.iloadN (pc' := 95) at_94 rfl rfl ?_
    refine OwnW.iconst (pc' := 96) (v := (2 : Int32)) at_95 rfl rfl ?_
    refine OwnW.callS0 (a0 := a0) (pc' := 99) (W := 2) (k' := 2) (n' := 6) (argsL := [(.int g2), (.int p2), (.int (2 : Int32))]) (rest := [(.int (2 : Int32)), (.ref ad49)]) (St' := [(.double (f7 g2 p2 (2 : Int32))), (.int (2 : Int32)), (.ref ad49)]) at_96 (hw _ (List.mem_of_getElem? (i := 40) rfl)) (hw _ (List.mem_of_getElem? (i := 41) rfl)) (hw _ (List.mem_of_getElem? (i := 38) rfl)) (hw _ (List.mem_of_getElem? (i := 42) rfl)) (by decide) (rm7 l Z a0 hw g2 p2 (2 : Int32) h65 n0) (by decide) (by decide) rfl rfl (by decide) (by decide) rfl pd_28III29D rfl rfl rfl (Nat.le_of_ble_eq_true rfl) rfl rfl ?_
    obtain ⟨s2, hs2⟩ : ∃ z, z = (f7 g2 p2 (2 : Int32)) := ⟨_, rfl⟩
    rw [← hs2]
    show GoB0 l Z n0 OwnW.One1 h65 2 6 99 #[.val (.int p0), .val (.int p1), .val (.int p2), .val (.int p3), .val (.int (3 : Int32)), .val (.ref ad48), .val (.ref ad49), .unset, .unset, .unset, .unset] [(.double s2), (.int (2 : Int32)), (.ref ad49)]
    have F68 := (V62.other W65 (Ne.symm (Nat.ne_of_lt lt_ad48_ad49)))
    obtain ⟨cl69, Ar69, qk69, Sz69, Mn69, Hv69, Gf69⟩ := id F68
    refine OwnW.stD (pc' := 100) at_99 Ar69 (inb_of Sz69 ⟨by decide, by decide⟩) ge_ad49 rfl ?_
    intro h69 W69
    have sz70 : n0 ≤ h69.size := (by rw [W69.size]; exact sz66)
    have V69 : Arv Z h69 ad49 kc49 .double (3 : Int32) [(.double s0), (.double s1), (.double s2)] (.double (0 : UInt64)) := Arv.set Ar69 qk69 Sz69 Mn69 Hv69 Gf69 rfl W69 2 rfl (Nat.le_of_ble_eq_true rfl)
    refine OwnW.newO (a0 := a0) (pc' := 103) (k' := 3) (n' := 10) at_100 (hw _ (List.mem_of_getElem? (i := 2) rfl)) (hw _ (List.mem_of_getElem? (i := 3) rfl)) (hw _ (List.mem_of_getElem? (i := 4) rfl)) rfl rfl (by decide) (by decide) rfl ?_
    intro h71 ad71 g71 E71 A71 D71
    have lt_ad48_ad71 : @LT.lt Nat _ ad48 ad71 := Nat.lt_of_lt_of_le ((V65.other W69 (Nat.ne_of_lt lt_ad48_ad49))).lt (Nat.le_of_eq g71.symm)
    have lt_ad49_ad71 : @LT.lt Nat _ ad49 ad71 := Nat.lt_of_lt_of_le (V69).lt (Nat.le_of_eq g71.symm)
    have ge_ad71 : n0 ≤ ad71 := Nat.le_trans sz70 (Nat.le_of_eq g71.symm)
    have sz_ad71 : n0 ≤ h71.size := Nat.le_trans sz70 E71.1
    have F71_groups : Fld Z h71 ad71 "com/example/sieve_for_links/sieveforlinks/VirtualLinks" "groups" "[I" .null := D71 (Or.inr (hw _ (List.mem_of_getElem? (i := 24) rfl))) (ty := (.array .int)) (by decide)
    have F71_shares : Fld Z h71 ad71 "com/example/sieve_for_links/sieveforlinks/VirtualLinks" "shares" "[D" .null := D71 (Or.inr (hw _ (List.mem_of_getElem? (i := 26) rfl))) (ty := (.array .double)) (by decide)
    have F71_members : Fld Z h71 ad71 "com/example/sieve_for_links/sieveforlinks/VirtualLinks" "members" "[I" .null := D71 (Or.inr (hw _ (List.mem_of_getElem? (i := 28) rfl))) (ty := (.array .int)) (by decide)
    have F71_memberStarts : Fld Z h71 ad71 "com/example/sieve_for_links/sieveforlinks/VirtualLinks" "memberStarts" "[I" .null := D71 (Or.inr (hw _ (List.mem_of_getElem? (i := 30) rfl))) (ty := (.array .int)) (by decide)
    refine OwnW.dup (pc' := 104) at_103 rfl rfl ?_
    refine OwnW.aload (pc' := 106) at_104 rfl (rfl) rfl ?_
    refine OwnW.aload (pc' := 108) at_106 rfl (rfl) rfl ?_
    refine OwnW.iconst (pc' := 109) (v := (2 : Int32)) at_108 rfl rfl ?_
    have F72 := ((V65.other W69 (Nat.ne_of_lt lt_ad48_ad49)).ext E71)
    have F73 := (V69.ext E71)
    refine OwnW.callI (a0 := a0) (pc' := 112) (W := 1) (k' := 7) (n' := 23) (argsL := [(.ref ad48), (.ref ad49), (.int (2 : Int32))]) (rest := [(.ref ad71)]) at_109 rfl (hw _ (List.mem_of_getElem? (i := 5) rfl)) (hw _ (List.mem_of_getElem? (i := 6) rfl)) (hw _ (List.mem_of_getElem? (i := 4) rfl)) (hw _ (List.mem_of_getElem? (i := 7) rfl)) (by decide) (rm13 l Z a0 hw ad71 ad48 ad49 kc48 kc49 g0 g1 g2 s0 s1 s2 h71 n0 sz_ad71 ge_ad71 A71 F71_groups F71_shares F71_members F71_memberStarts F72 F73 (own_pk hg0) (own_pk hg1) (own_pk hg2) (own_sh hs0) (own_sh hs1) (own_sh hs2)) (by decide) (by decide) rfl rfl (by decide) (by decide) rfl pd_285bI5bDI29V rfl rfl rfl (Nat.le_of_ble_eq_true rfl) rfl ?_
    rintro h74 v74 ⟨rfl, K74, Fc74_0, Fc74_1⟩
    have sz75 : n0 ≤ h74.size := Nat.le_trans sz_ad71 K74.1
    show GoB0 l Z n0 OwnW.One1 h74 7 23 112 #[.val (.int p0), .val (.int p1), .val (.int p2), .val (.int p3), .val (.int (3 : Int32)), .val (.ref ad48), .val (.ref ad49), .unset, .unset, .unset, .unset] [(.ref ad71)]
    refine OwnW.astore (pc' := 114) (L' := #[.val (.int p0), .val (.int p1), .val (.int p2), .val (.int p3), .val (.int (3 : Int32)), .val (.ref ad48), .val (.ref ad49), .val (.ref ad71), .unset, .unset, .unset]) at_112 (rfl) rfl rfl ?_
    refine OwnW.iloadN (pc' := 115) at_114 rfl rfl ?_
    refine OwnW.iconst (pc' := 116) (v := (2 : Int32)) at_115 rfl rfl ?_
    refine OwnW.iushr (pc' := 117) at_116 rfl ?_
    refine OwnW.iconst (pc' := 118) (v := (3 : Int32)) at_117 rfl rfl ?_
    refine OwnW.iand (pc' := 119) at_118 rfl ?_
    refine OwnW.istore (pc' := 121) (L' := #[.val (.int p0), .val (.int p1), .val (.int p2), .val (.int p3), .val (.int (3 : Int32)), .val (.ref ad48), .val (.ref ad49), .val (.ref ad71), .val (.int (((p0.toUInt32 >>> ((2 : Int32) &&& 31).toUInt32).toInt32) &&& (3 : Int32))), .unset, .unset]) at_119 rfl rfl ?_
    refine OwnW.iload (pc' := 123) at_121 rfl rfl ?_
    suffices J123_166 : ∀ (nn : Int32), nn = (if (((p0.toUInt32 >>> ((2 : Int32) &&& 31).toUInt32).toInt32) &&& (3 : Int32)) = (0 : Int32) then p3 else (if (((p0.toUInt32 >>> ((2 : Int32) &&& 31).toUInt32).toInt32) &&& (3 : Int32)) = (1 : Int32) then (3 : Int32) else (if (((p0.toUInt32 >>> ((2 : Int32) &&& 31).toUInt32).toInt32) &&& (3 : Int32)) = (2 : Int32) then (4 : Int32) else (2 : Int32)))) → GoB0 l Z n0 OwnW.One1 h74 7 23 166 #[.val (.int p0), .val (.int p1), .val (.int p2), .val (.int p3), .val (.int (3 : Int32)), .val (.ref ad48), .val (.ref ad49), .val (.ref ad71), .val (.int (((p0.toUInt32 >>> ((2 : Int32) &&& 31).toUInt32).toInt32) &&& (3 : Int32))), .val (.int nn), .unset] [] by
      by_cases hc123 : (((p0.toUInt32 >>> ((2 : Int32) &&& 31).toUInt32).toInt32) &&& (3 : Int32)) = (0 : Int32)
      ·
        refine OwnW.ifcN (pc' := 126) at_123 ((if0 _ _).trans (teq hc123).2) rfl ?_
        refine OwnW.iloadN (pc' := 127) at_126 rfl rfl ?_
        refine OwnW.istore (pc' := 129) (L' := #[.val (.int p0), .val (.int p1), .val (.int p2), .val (.int p3), .val (.int (3 : Int32)), .val (.ref ad48), .val (.ref ad49), .val (.ref ad71), .val (.int (((p0.toUInt32 >>> ((2 : Int32) &&& 31).toUInt32).toInt32) &&& (3 : Int32))), .val (.int p3), .unset]) at_127 rfl rfl ?_
        refine OwnW.goto (pc' := 166) at_129 (by decide) (by decide) ?_
        exact J123_166 _ (by first | simp only [if_pos hc123] | rfl)
      ·
        refine OwnW.ifcY (pc' := 132) at_123 ((if0 _ _).trans (feq hc123).2) (by decide) (by decide) ?_
        refine OwnW.iload (pc' := 134) at_132 rfl rfl ?_
        refine OwnW.iconst (pc' := 135) (v := (1 : Int32)) at_134 rfl rfl ?_
        by_cases hc135 : (((p0.toUInt32 >>> ((2 : Int32) &&& 31).toUInt32).toInt32) &&& (3 : Int32)) = (1 : Int32)
        ·
          refine OwnW.icmpN (pc' := 138) at_135 (teq hc135).2 rfl ?_
          refine OwnW.iload (pc' := 140) at_138 rfl rfl ?_
          refine OwnW.istore (pc' := 142) (L' := #[.val (.int p0), .val (.int p1), .val (.int p2), .val (.int p3), .val (.int (3 : Int32)), .val (.ref ad48), .val (.ref ad49), .val (.ref ad71), .val (.int (((p0.toUInt32 >>> ((2 : Int32) &&& 31).toUInt32).toInt32) &&& (3 : Int32))), .val (.int (3 : Int32)), .unset]) at_140 rfl rfl ?_
          refine OwnW.goto (pc' := 166) at_142 (by decide) (by decide) ?_
          exact J123_166 _ (by first | simp only [if_neg hc123, if_pos hc135] | rfl)
        ·
          refine OwnW.icmpY (pc' := 145) at_135 (feq hc135).2 (by decide) (by decide) ?_
          refine OwnW.iload (pc' := 147) at_145 rfl rfl ?_
          refine OwnW.iconst (pc' := 148) (v := (2 : Int32)) at_147 rfl rfl ?_
          by_cases hc148 : (((p0.toUInt32 >>> ((2 : Int32) &&& 31).toUInt32).toInt32) &&& (3 : Int32)) = (2 : Int32)
          ·
            refine OwnW.icmpN (pc' := 151) at_148 (teq hc148).2 rfl ?_
            refine OwnW.iload (pc' := 153) at_151 rfl rfl ?_
            refine OwnW.iconst (pc' := 154) (v := (1 : Int32)) at_153 rfl rfl ?_
            refine OwnW.iadd (pc' := 155) at_154 rfl ?_
            show GoB0 l Z n0 OwnW.One1 h74 7 23 155 #[.val (.int p0), .val (.int p1), .val (.int p2), .val (.int p3), .val (.int (3 : Int32)), .val (.ref ad48), .val (.ref ad49), .val (.ref ad71), .val (.int (((p0.toUInt32 >>> ((2 : Int32) &&& 31).toUInt32).toInt32) &&& (3 : Int32))), .unset, .unset] [(.int (4 : Int32))]
            refine OwnW.istore (pc' := 157) (L' := #[.val (.int p0), .val (.int p1), .val (.int p2), .val (.int p3), .val (.int (3 : Int32)), .val (.ref ad48), .val (.ref ad49), .val (.ref ad71), .val (.int (((p0.toUInt32 >>> ((2 : Int32) &&& 31).toUInt32).toInt32) &&& (3 : Int32))), .val (.int (4 : Int32)), .unset]) at_155 rfl rfl ?_
            refine OwnW.goto (pc' := 166) at_157 (by decide) (by decide) ?_
            exact J123_166 _ (by first | simp only [if_neg hc123, if_neg hc135, if_pos hc148] | rfl)
          ·
            refine OwnW.icmpY (pc' := 160) at_148 (feq hc148).2 (by decide) (by decide) ?_
            refine OwnW.iload (pc' := 162) at_160 rfl rfl ?_
            refine OwnW.iconst (pc' := 163) (v := (1 : Int32)) at_162 rfl rfl ?_
            refine OwnW.isub (pc' := 164) at_163 rfl ?_
            show GoB0 l Z n0 OwnW.One1 h74 7 23 164 #[.val (.int p0), .val (.int p1), .val (.int p2), .val (.int p3), .val (.int (3 : Int32)), .val (.ref ad48), .val (.ref ad49), .val (.ref ad71), .val (.int (((p0.toUInt32 >>> ((2 : Int32) &&& 31).toUInt32).toInt32) &&& (3 : Int32))), .unset, .unset] [(.int (2 : Int32))]
            refine OwnW.istore (pc' := 166) (L' := #[.val (.int p0), .val (.int p1), .val (.int p2), .val (.int p3), .val (.int (3 : Int32)), .val (.ref ad48), .val (.ref ad49), .val (.ref ad71), .val (.int (((p0.toUInt32 >>> ((2 : Int32) &&& 31).toUInt32).toInt32) &&& (3 : Int32))), .val (.int (2 : Int32)), .unset]) at_164 rfl rfl ?_
            exact J123_166 _ (by first | simp only [if_neg hc123, if_neg hc135, if_neg hc148] | rfl)
    intro nn hnn
    refine OwnW.iload (pc' := 168) at_166 rfl rfl ?_
    refine OwnW.ifcN (pc' := 171) at_168 ((if0 _ _).trans (feq (by decide)).1) rfl ?_
    refine OwnW.iload (pc' := 173) at_171 rfl rfl ?_
    refine OwnW.iload (pc' := 175) at_173 rfl rfl ?_
    by_cases hc175 : nn = (3 : Int32)
    ·
      refine OwnW.icmpN (pc' := 178) at_175 (teq hc175).2 rfl ?_
      refine OwnW.iconst (pc' := 179) (v := (1 : Int32)) at_178 rfl rfl ?_
      refine OwnW.goto (pc' := 183) at_179 (by decide) (by decide) ?_
      refine OwnW.istore (pc' := 185) (L' := #[.val (.int p0), .val (.int p1), .val (.int p2), .val (.int p3), .val (.int (3 : Int32)), .val (.ref ad48), .val (.ref ad49), .val (.ref ad71), .val (.int (((p0.toUInt32 >>> ((2 : Int32) &&& 31).toUInt32).toInt32) &&& (3 : Int32))), .val (.int nn), .val (.int (1 : Int32))]) at_183 rfl rfl ?_
      refine OwnW.aload (pc' := 187) at_185 rfl (rfl) rfl ?_
      refine OwnW.iload (pc' := 189) at_187 rfl rfl ?_
      have F76 := (F72.keep K74 (ninS (Nat.ne_of_lt lt_ad48_ad71) nin0))
      refine OwnW.callV0 (a0 := a0) (pc' := 192) (W := 0) (k' := 7) (n' := 23) (argsL := [(.int nn)]) (rest := []) (St' := [(.int (f53 ad71 nn ad48 kc48 [(.int g0), (.int g1), (.int g2)]))]) at_189 (hw _ (List.mem_of_getElem? (i := 31) rfl)) (hw _ (List.mem_of_getElem? (i := 32) rfl)) (hw _ (List.mem_of_getElem? (i := 34) rfl)) (hw _ (List.mem_of_getElem? (i := 33) rfl)) (hw _ (List.mem_of_getElem? (i := 4) rfl)) (hw _ (List.mem_of_getElem? (i := 35) rfl)) (by decide) Fc74_0 (rm53 l Z a0 hw ad71 nn ad48 kc48 [(.int g0), (.int g1), (.int g2)] h74 n0 Fc74_1 F76) (by decide) (by decide) rfl rfl (by decide) (by decide) rfl pd_28I29Z rfl rfl rfl (Nat.le_of_ble_eq_true rfl) rfl rfl ?_
      refine OwnW.iload (pc' := 194) at_192 rfl rfl ?_
      refine OwnW.icmpN (pc' := 197) at_194 (teq (if_pos hc175.symm)).2 rfl ?_
      refine OwnW.iconst (pc' := 198) (v := (1 : Int32)) at_197 rfl rfl ?_
      refine OwnW.goto (pc' := 202) at_198 (by decide) (by decide) ?_
      exact OwnW.retN (t := .boolean) at_202 rfl (by simp) rfl (by decide) (by decide) (rfl)
    ·
      refine OwnW.icmpY (pc' := 182) at_175 (feq hc175).2 (by decide) (by decide) ?_
      refine OwnW.iconst (pc' := 183) (v := (0 : Int32)) at_182 rfl rfl ?_
      refine OwnW.istore (pc' := 185) (L' := #[.val (.int p0), .val (.int p1), .val (.int p2), .val (.int p3), .val (.int (3 : Int32)), .val (.ref ad48), .val (.ref ad49), .val (.ref ad71), .val (.int (((p0.toUInt32 >>> ((2 : Int32) &&& 31).toUInt32).toInt32) &&& (3 : Int32))), .val (.int nn), .val (.int (0 : Int32))]) at_183 rfl rfl ?_
      refine OwnW.aload (pc' := 187) at_185 rfl (rfl) rfl ?_
      refine OwnW.iload (pc' := 189) at_187 rfl rfl ?_
      have F77 := (F72.keep K74 (ninS (Nat.ne_of_lt lt_ad48_ad71) nin0))
      refine OwnW.callV0 (a0 := a0) (pc' := 192) (W := 0) (k' := 7) (n' := 23) (argsL := [(.int nn)]) (rest := []) (St' := [(.int (f53 ad71 nn ad48 kc48 [(.int g0), (.int g1), (.int g2)]))]) at_189 (hw _ (List.mem_of_getElem? (i := 31) rfl)) (hw _ (List.mem_of_getElem? (i := 32) rfl)) (hw _ (List.mem_of_getElem? (i := 34) rfl)) (hw _ (List.mem_of_getElem? (i := 33) rfl)) (hw _ (List.mem_of_getElem? (i := 4) rfl)) (hw _ (List.mem_of_getElem? (i := 35) rfl)) (by decide) Fc74_0 (rm53 l Z a0 hw ad71 nn ad48 kc48 [(.int g0), (.int g1), (.int g2)] h74 n0 Fc74_1 F77) (by decide) (by decide) rfl rfl (by decide) (by decide) rfl pd_28I29Z rfl rfl rfl (Nat.le_of_ble_eq_true rfl) rfl rfl ?_
      refine OwnW.iload (pc' := 194) at_192 rfl rfl ?_
      refine OwnW.icmpN (pc' := 197) at_194 (teq (if_neg (fun q => hc175 q.symm))).2 rfl ?_
      refine OwnW.iconst (pc' := 198) (v := (1 : Int32)) at_197 rfl rfl ?_
      refine OwnW.goto (pc' := 202) at_198 (by decide) (by decide) ?_
      exact OwnW.retN (t := .boolean) at_202 rfl (by simp) rfl (by decide) (by decide) (rfl)
set_option maxRecDepth 65536 in
set_option maxHeartbeats 400000000 in
theorem comes_1 {Post : Tables → Env → Array Value → State → Outcome → State → Prop} (hpost : ∀ tb e args s v u, (limb_1_1.after args s (.returned v) u = true ∧ limb_1_2.after args s (.returned v) u = true ∧ True) → FrameEnd s (.returned v) u (Jvm.fieldLocs frame_1_writes args s ++ Jvm.arrayLocs frame_1_arrays args s ++ Jvm.staticLocs frame_1_statics s) 24 128 → Post tb e args s (.returned v) u) :
    ArmFor flags0 classFile x code maxLocals ret World_1 tables_1 room_1 Calls_1 rest_1 Pre_1 Post := by
  intro l hfl _ _ p e ha hc hk s m args below hf hA hF happ hP
  obtain ⟨hcalls, hrest, hpre⟩ := hP
  obtain ⟨-, -, -, hnamed, -, -, -, hat⟩ := (Spec.applies_iff hf).mp happ
  obtain ⟨hg, hn⟩ := and_e (Cond.before_iff.mp (show (Jvm.Cond.and given_1 narrow_1).before args s = true from hpre))
  obtain ⟨hcount, hr0⟩ := and_e hg
  obtain ⟨w0, w1, w2, w3, rfl⟩ : ∃ w0 w1 w2 w3 : Value, args = #[w0, w1, w2, w3] := by
    have hs : args.size = 4 := by simpa [Cond.value, given_1] using hcount
    obtain ⟨L⟩ := args
    match L, hs with
    | [w0, w1, w2, w3], _ => exact ⟨w0, w1, w2, w3, rfl⟩
  have hw := fun d (hd : d ∈ tables_1) => atoms_spec (ws := Jvm.Cond.code x code maxLocals ret :: tables_1) hat d (List.mem_cons_of_mem _ hd)
  have hfit : Fit s := fun {y c} hc i hi => by
    obtain ⟨ha, rfl⟩ := Array.getElem?_eq_some_iff.mp hc
    have q := List.all_eq_true.mp ((Array.all_eq_true_iff_forall_mem.mp hF) _ (Array.getElem_mem ha)) i (List.mem_range.mpr hi)
    simpa [Array.getElem?_eq_getElem hi] using q
  obtain ⟨hq0, hr1⟩ := and_e hr0
  obtain ⟨i0, ei0⟩ := is_v hq0
  obtain rfl : w0 = (.int i0) := Option.some.inj ei0
  obtain ⟨hq1, hr2⟩ := and_e hr1
  obtain ⟨i1, ei1⟩ := is_v hq1
  obtain rfl : w1 = (.int i1) := Option.some.inj ei1
  obtain ⟨hq2, hr3⟩ := and_e hr2
  obtain ⟨i2, ei2⟩ := is_v hq2
  obtain rfl : w2 = (.int i2) := Option.some.inj ei2
  obtain ⟨i3, ei3⟩ := is_v hr3
  obtain rfl : w3 = (.int i3) := Option.some.inj ei3
  obtain ⟨n, o, h1, h2, h3, _, L, rfl, ⟨rfl, N⟩, hq⟩ := rm0 l s _ hw i0 i1 i2 i3 s.heap s.heap.size (Nat.le_refl _) tables_1 p e ha hc hk s m _ below hf ((Spec.applies_iff_loose hf).mp happ).1 ⟨rfl, State.Warmed39.refl s, rfl⟩ trivial
  refine ⟨n, _, h1, h2, h3, hpost _ _ _ _ _ _ ⟨Cond.after_iff.mpr rfl, Cond.after_iff.mpr (eq_i res_at (Term.int_eval (1)) rfl), trivial⟩ ⟨hq.1, hq.2.1, (hq.2.2.sift fun y hy => Or.inr (N y hy)).mono (by decide) (by decide)⟩⟩
theorem main_1_1 : Claimed_1_1 := comes_1 fun _ _ _ _ _ _ h hF => ⟨h.1, hF⟩
theorem main_1_2 : Claimed_1_2 := comes_1 fun _ _ _ _ _ _ h hF => ⟨h.2.1, hF⟩
end Jvm.Pilot.@@N@@
namespace Jvm.Pilot.@@N@@
open Jvm Jvm.ClassFile Sem Op Lib Jvm.Free Jvm.Stand Jvm.Pilot.@@N@@.Jvm.D
/-! MADE BY PROGRAM (witnessworld.py) out of the Statement's table words and the real class files: 12 classes; the members and pool entries that the words name. The judged class is class 1, her method 3. -/
namespace start1
open Jvm.ClassFile
def u (s : String) : CpInfo := .utf8 (stringToUtf16 s)
/-- a pool by its gaps: so many unusable entries, then the entry; so many at the end -/
def gap : Nat → List CpInfo → List CpInfo
  | 0, r => r
  | n + 1, r => .unusable :: gap n r
def poolList (es : List (Nat × CpInfo)) (last : Nat) : List CpInfo := es.foldr (fun e r => gap e.1 (e.2 :: r)) (gap last [])
def pool (es : List (Nat × CpInfo)) (last : Nat) : Array CpInfo := ⟨poolList es last⟩
def fileOf (pool : Array CpInfo) (this : Nat) (attrs : Array Attribute := #[]) (ms : Array MethodInfo := #[]) (fl : Nat := 33) (sup : Nat := 0) (ifs : Array Nat := #[]) (fds : Array FieldInfo := #[]) : ClassFile where
  minorVersion := 0
  majorVersion := 65
  constantPool := pool
  accessFlags := fl
  thisClass := this
  superClass := sup
  interfaces := ifs
  fields := fds
  methods := ms
  attributes := attrs
def plain (name : String) (sup : Option ClassId) : Class where
  name := name
  kind := .ordinary
  loader := none
  accessFlags := 33
  super := sup
  interfaces := #[]
  cf := none
  fields := #[]
  methods := #[]
  instanceTypes := #[]
  staticTypes := #[]
  resolved := #[]
  callSites := []
  init := .initialized
  statics := none
  mirror := none

def pool0 : Array CpInfo := pool [(5, u "<init>"), (0, u "()V"), (1, .class_ 10), (1, u "java/lang/Object")] 113

def k0c0 : Code := { maxStack := 0, maxLocals := 1, code := object_method_1_code, exceptionTable := #[], attributes := #[] }
def k0m0 : Method := { name := "<init>", desc := "()V", sig := { parameters := [], returnType := none }, accessFlags := 1, code := some k0c0 }
/-- java/lang/Object -/
def k0 : Class := { plain "java/lang/Object" none with
  accessFlags := 33
  interfaces := #[]
  cf := some (fileOf pool0 8 #[] #[{ accessFlags := 1, nameIndex := 5, descriptorIndex := 6, attributes := #[] }] 33 0 #[] #[])
  fields := #[]
  methods := #[k0m0]
  instanceTypes := #[]
  staticTypes := #[]
  resolved := Array.replicate 124 none
  statics := none }

def pool1 : Array CpInfo := pool [(2, .class_ 4), (1, u "java/lang/Object"), (0, u "<init>"), (0, u "()V"), (0, .methodref 8 9), (0, .class_ 10), (0, .nameAndType 11 12), (0, u "com/example/sieve_for_links/sieveforlinks/VirtualLinksFitsPinLaw"), (0, u "pick"), (0, u "(II)I"), (0, .methodref 8 14), (0, .nameAndType 15 16), (0, u "shareOf"), (0, u "(III)D"), (0, .class_ 18), (0, u "com/example/sieve_for_links/sieveforlinks/VirtualLinks"), (0, .methodref 17 20), (0, .nameAndType 5 21), (0, u "([I[DI)V"), (0, .methodref 17 23), (0, .nameAndType 24 25), (0, u "fits"), (0, u "(I)Z"), (3, u "law"), (0, u "(IIII)Z")] 6

def k1m0 : Method := { name := "<init>", desc := "()V", sig := { parameters := [], returnType := none }, accessFlags := 1, code := none }
def k1c1 : Code := { maxStack := 3, maxLocals := 2, code := method_2_code, exceptionTable := #[], attributes := #[] }
def k1m1 : Method := { name := "pick", desc := "(II)I", sig := { parameters := [.int, .int], returnType := some .int }, accessFlags := 10, code := some k1c1 }
def k1c2 : Code := { maxStack := 2, maxLocals := 3, code := method_3_code, exceptionTable := #[], attributes := #[] }
def k1m2 : Method := { name := "shareOf", desc := "(III)D", sig := { parameters := [.int, .int, .int], returnType := some .double }, accessFlags := 10, code := some k1c2 }
def k1c3 : Code := { maxStack := 5, maxLocals := 11, code := code, exceptionTable := #[], attributes := #[] }
def k1m3 : Method := { name := "law", desc := "(IIII)Z", sig := { parameters := [.int, .int, .int, .int], returnType := some .boolean }, accessFlags := 9, code := some k1c3 }
/-- com/example/sieve_for_links/sieveforlinks/VirtualLinksFitsPinLaw -/
def k1 : Class := { plain "com/example/sieve_for_links/sieveforlinks/VirtualLinksFitsPinLaw" (some 0) with
  accessFlags := 49
  interfaces := #[]
  cf := some (fileOf pool1 8 #[] #[{ accessFlags := 1, nameIndex := 5, descriptorIndex := 6, attributes := #[] }, { accessFlags := 10, nameIndex := 11, descriptorIndex := 12, attributes := #[] }, { accessFlags := 10, nameIndex := 15, descriptorIndex := 16, attributes := #[] }, { accessFlags := 9, nameIndex := 29, descriptorIndex := 30, attributes := #[] }] 49 2 #[] #[])
  fields := #[]
  methods := #[k1m0, k1m1, k1m2, k1m3]
  instanceTypes := #[]
  staticTypes := #[]
  resolved := Array.replicate 37 none
  statics := none }

def pool2 : Array CpInfo := pool [(1, .methodref 2 3), (0, .class_ 4), (0, .nameAndType 5 6), (0, u "java/lang/Object"), (0, u "<init>"), (0, u "()V"), (13, .methodref 21 22), (0, .class_ 23), (0, .nameAndType 24 25), (0, u "java/util/Arrays"), (0, u "copyOf"), (0, u "([II)[I"), (0, .fieldref 27 28), (0, .class_ 29), (0, .nameAndType 30 31), (0, u "com/example/sieve_for_links/sieveforlinks/VirtualLinks"), (0, u "groups"), (0, u "[I"), (0, .fieldref 27 33), (0, .nameAndType 34 35), (0, u "shares"), (0, u "[D"), (0, .fieldref 27 37), (0, .nameAndType 38 31), (0, u "members"), (0, .fieldref 27 40), (0, .nameAndType 41 31), (0, u "memberStarts"), (2, u "([I[DI)V"), (2, u "NONE"), (0, u "Lcom/example/sieve_for_links/sieveforlinks/VirtualLinks;"), (5, u "fits"), (0, u "(I)Z")] 31

def k2c0 : Code := { maxStack := 6, maxLocals := 9, code := prog_33_method_1_code, exceptionTable := #[], attributes := #[] }
def k2m0 : Method := { name := "<init>", desc := "([I[DI)V", sig := { parameters := [(.array .int), (.array .double), .int], returnType := none }, accessFlags := 0, code := some k2c0 }
def k2c1 : Code := { maxStack := 2, maxLocals := 2, code := prog_33_method_2_code, exceptionTable := #[], attributes := #[] }
def k2m1 : Method := { name := "fits", desc := "(I)Z", sig := { parameters := [.int], returnType := some .boolean }, accessFlags := 0, code := some k2c1 }
/-- com/example/sieve_for_links/sieveforlinks/VirtualLinks -/
def k2 : Class := { plain "com/example/sieve_for_links/sieveforlinks/VirtualLinks" (some 0) with
  accessFlags := 48
  interfaces := #[]
  cf := some (fileOf pool2 27 #[] #[{ accessFlags := 0, nameIndex := 5, descriptorIndex := 44, attributes := #[] }, { accessFlags := 0, nameIndex := 54, descriptorIndex := 55, attributes := #[] }] 48 2 #[] #[{ accessFlags := 24, nameIndex := 47, descriptorIndex := 48, attributes := #[] }, { accessFlags := 18, nameIndex := 30, descriptorIndex := 31, attributes := #[] }, { accessFlags := 18, nameIndex := 34, descriptorIndex := 35, attributes := #[] }, { accessFlags := 18, nameIndex := 38, descriptorIndex := 31, attributes := #[] }, { accessFlags := 18, nameIndex := 41, descriptorIndex := 31, attributes := #[] }])
  fields := #[{ name := "NONE", type := (.object "com/example/sieve_for_links/sieveforlinks/VirtualLinks"), accessFlags := 24, slot := 0, constantValue := 0 }, { name := "groups", type := (.array .int), accessFlags := 18, slot := 0, constantValue := 0 }, { name := "shares", type := (.array .double), accessFlags := 18, slot := 1, constantValue := 0 }, { name := "members", type := (.array .int), accessFlags := 18, slot := 2, constantValue := 0 }, { name := "memberStarts", type := (.array .int), accessFlags := 18, slot := 3, constantValue := 0 }]
  methods := #[k2m0, k2m1]
  instanceTypes := #[(.array .int), (.array .double), (.array .int), (.array .int)]
  staticTypes := #[(.object "com/example/sieve_for_links/sieveforlinks/VirtualLinks")]
  resolved := Array.replicate 87 none
  statics := none }

def pool3 : Array CpInfo := pool [(2, .class_ 4), (1, u "java/lang/Object"), (0, u "<init>"), (0, u "()V"), (7, .class_ 16), (1, u "java/util/Arrays"), (57, .class_ 76), (1, u "java/util/Arrays$NaturalOrder"), (36, .class_ 115), (1, u "java/util/Arrays$LegacyMergeSort"), (1, u "Z"), (32, .methodref 151 152), (0, .class_ 153), (0, .nameAndType 154 155), (0, u "java/lang/System"), (0, u "arraycopy"), (0, u "(Ljava/lang/Object;ILjava/lang/Object;II)V"), (146, u "copyOf"), (1, .methodref 305 306), (0, .class_ 307), (0, .nameAndType 308 309), (0, u "java/lang/Math"), (0, u "min"), (0, u "(II)I"), (65, .class_ 376), (0, u "java/util/Arrays$ArrayList"), (68, u "$assertionsDisabled"), (269, u "MIN_ARRAY_SORT_GRAN"), (0, u "I"), (2, u "INSERTIONSORT_THRESHOLD"), (151, u "([II)[I"), (103, .class_ 976), (0, u "java/util/Arrays$ArrayItr")] 52

def k3m0 : Method := { name := "<init>", desc := "()V", sig := { parameters := [], returnType := none }, accessFlags := 2, code := none }
def k3c1 : Code := { maxStack := 6, maxLocals := 3, code := jdk_65_method_123_code, exceptionTable := #[], attributes := #[] }
def k3m1 : Method := { name := "copyOf", desc := "([II)[I", sig := { parameters := [(.array .int), .int], returnType := some (.array .int) }, accessFlags := 9, code := some k3c1 }
/-- java/util/Arrays -/
def k3 : Class := { plain "java/util/Arrays" (some 0) with
  accessFlags := 49
  interfaces := #[]
  cf := some (fileOf pool3 14 #[.nestMembers #[975, 375, 113, 74]] #[{ accessFlags := 2, nameIndex := 5, descriptorIndex := 6, attributes := #[] }, { accessFlags := 9, nameIndex := 302, descriptorIndex := 871, attributes := #[] }] 49 2 #[] #[{ accessFlags := 26, nameIndex := 715, descriptorIndex := 716, attributes := #[] }, { accessFlags := 26, nameIndex := 719, descriptorIndex := 716, attributes := #[] }, { accessFlags := 4120, nameIndex := 445, descriptorIndex := 117, attributes := #[] }])
  fields := #[{ name := "MIN_ARRAY_SORT_GRAN", type := .int, accessFlags := 26, slot := 0, constantValue := 0 }, { name := "INSERTIONSORT_THRESHOLD", type := .int, accessFlags := 26, slot := 1, constantValue := 0 }, { name := "$assertionsDisabled", type := .boolean, accessFlags := 4120, slot := 2, constantValue := 0 }]
  methods := #[k3m0, k3m1]
  instanceTypes := #[]
  staticTypes := #[.int, .int, .boolean]
  resolved := Array.replicate 1029 none
  statics := none }

def pool4 : Array CpInfo := pool [(1, .class_ 2), (0, u "java/lang/Math"), (1, .class_ 6), (1, u "java/lang/Object"), (0, u "<init>"), (0, u "()V"), (89, .class_ 100), (1, u "java/lang/Math$RandomNumberGeneratorHolder"), (71, u "negativeZeroFloatBits"), (0, u "J"), (2, u "negativeZeroDoubleBits"), (24, u "min"), (43, u "$assertionsDisabled"), (0, u "Z"), (88, u "(II)I"), (2, u "twoToTheDoubleScaleDown"), (0, u "D"), (4, u "twoToTheDoubleScaleUp"), (9, u "E"), (3, u "PI"), (2, u "TAU"), (2, u "DEGREES_TO_RADIANS"), (0, u "RADIANS_TO_DEGREES")] 94

def k4m0 : Method := { name := "<init>", desc := "()V", sig := { parameters := [], returnType := none }, accessFlags := 2, code := none }
def k4c1 : Code := { maxStack := 2, maxLocals := 2, code := jdk_29_method_69_code, exceptionTable := #[], attributes := #[] }
def k4m1 : Method := { name := "min", desc := "(II)I", sig := { parameters := [.int, .int], returnType := some .int }, accessFlags := 9, code := some k4c1 }
/-- java/lang/Math -/
def k4 : Class := { plain "java/lang/Math" (some 0) with
  accessFlags := 49
  interfaces := #[]
  cf := some (fileOf pool4 1 #[.nestMembers #[98]] #[{ accessFlags := 2, nameIndex := 7, descriptorIndex := 8, attributes := #[] }, { accessFlags := 9, nameIndex := 201, descriptorIndex := 335, attributes := #[] }] 49 4 #[] #[{ accessFlags := 25, nameIndex := 354, descriptorIndex := 339, attributes := #[] }, { accessFlags := 25, nameIndex := 358, descriptorIndex := 339, attributes := #[] }, { accessFlags := 25, nameIndex := 361, descriptorIndex := 339, attributes := #[] }, { accessFlags := 26, nameIndex := 364, descriptorIndex := 339, attributes := #[] }, { accessFlags := 26, nameIndex := 365, descriptorIndex := 339, attributes := #[] }, { accessFlags := 26, nameIndex := 172, descriptorIndex := 173, attributes := #[] }, { accessFlags := 26, nameIndex := 176, descriptorIndex := 173, attributes := #[] }, { accessFlags := 8, nameIndex := 344, descriptorIndex := 339, attributes := #[] }, { accessFlags := 8, nameIndex := 338, descriptorIndex := 339, attributes := #[] }, { accessFlags := 4120, nameIndex := 245, descriptorIndex := 246, attributes := #[] }])
  fields := #[{ name := "E", type := .double, accessFlags := 25, slot := 0, constantValue := 0 }, { name := "PI", type := .double, accessFlags := 25, slot := 1, constantValue := 0 }, { name := "TAU", type := .double, accessFlags := 25, slot := 2, constantValue := 0 }, { name := "DEGREES_TO_RADIANS", type := .double, accessFlags := 26, slot := 3, constantValue := 0 }, { name := "RADIANS_TO_DEGREES", type := .double, accessFlags := 26, slot := 4, constantValue := 0 }, { name := "negativeZeroFloatBits", type := .long, accessFlags := 26, slot := 5, constantValue := 0 }, { name := "negativeZeroDoubleBits", type := .long, accessFlags := 26, slot := 6, constantValue := 0 }, { name := "twoToTheDoubleScaleUp", type := .double, accessFlags := 8, slot := 7, constantValue := 0 }, { name := "twoToTheDoubleScaleDown", type := .double, accessFlags := 8, slot := 8, constantValue := 0 }, { name := "$assertionsDisabled", type := .boolean, accessFlags := 4120, slot := 9, constantValue := 0 }]
  methods := #[k4m0, k4m1]
  instanceTypes := #[]
  staticTypes := #[.double, .double, .double, .double, .double, .long, .long, .double, .double, .boolean]
  resolved := Array.replicate 460 none
  statics := none }

def pool5 : Array CpInfo := pool [(2, .class_ 4), (1, u "java/lang/Object"), (0, u "<init>"), (0, u "()V"), (1, .class_ 10), (1, u "java/lang/System"), (0, u "allowSecurityManager"), (0, u "I"), (16, u "cons"), (0, u "Ljava/io/Console;"), (77, .class_ 110), (1, u "java/lang/System$CallersHolder"), (43, u "initialErrStream"), (0, u "Ljava/io/PrintStream;"), (19, u "security"), (0, u "Ljava/lang/SecurityManager;"), (31, .class_ 209), (0, u "java/lang/System$1"), (7, u "props"), (0, u "Ljava/util/Properties;"), (2, u "lineSeparator"), (0, u "Ljava/lang/String;"), (96, .class_ 321), (1, u "java/lang/System$LoggerFinder"), (5, .class_ 328), (0, u "java/lang/System$Logger"), (67, u "err"), (2, u "out"), (91, u "notSupportedJnuEncoding"), (15, u "in"), (17, u "initialIn"), (0, u "Ljava/io/InputStream;"), (35, u "bootLayer"), (0, u "Ljava/lang/ModuleLayer;"), (99, .class_ 664), (0, u "java/lang/System$2"), (9, u "NEVER"), (2, u "MAYBE"), (49, u "arraycopy"), (0, u "(Ljava/lang/Object;ILjava/lang/Object;II)V"), (72, .class_ 802), (0, u "java/lang/System$Logger$Level")] 31

def k5m0 : Method := { name := "<init>", desc := "()V", sig := { parameters := [], returnType := none }, accessFlags := 2, code := none }
def k5m1 : Method := { name := "arraycopy", desc := "(Ljava/lang/Object;ILjava/lang/Object;II)V", sig := { parameters := [(.object "java/lang/Object"), .int, (.object "java/lang/Object"), .int, .int], returnType := none }, accessFlags := 265, code := none }
/-- java/lang/System -/
def k5 : Class := { plain "java/lang/System" (some 0) with
  accessFlags := 49
  interfaces := #[]
  cf := some (fileOf pool5 8 #[.nestMembers #[319, 327, 801, 108, 663, 208]] #[{ accessFlags := 2, nameIndex := 5, descriptorIndex := 6, attributes := #[] }, { accessFlags := 265, nameIndex := 727, descriptorIndex := 728, attributes := #[] }] 49 2 #[] #[{ accessFlags := 25, nameIndex := 507, descriptorIndex := 526, attributes := #[] }, { accessFlags := 25, nameIndex := 399, descriptorIndex := 155, attributes := #[] }, { accessFlags := 25, nameIndex := 396, descriptorIndex := 155, attributes := #[] }, { accessFlags := 10, nameIndex := 525, descriptorIndex := 526, attributes := #[] }, { accessFlags := 26, nameIndex := 674, descriptorIndex := 12, attributes := #[] }, { accessFlags := 26, nameIndex := 677, descriptorIndex := 12, attributes := #[] }, { accessFlags := 10, nameIndex := 11, descriptorIndex := 12, attributes := #[] }, { accessFlags := 74, nameIndex := 175, descriptorIndex := 176, attributes := #[] }, { accessFlags := 10, nameIndex := 491, descriptorIndex := 222, attributes := #[] }, { accessFlags := 74, nameIndex := 29, descriptorIndex := 30, attributes := #[] }, { accessFlags := 74, nameIndex := 154, descriptorIndex := 155, attributes := #[] }, { accessFlags := 10, nameIndex := 217, descriptorIndex := 218, attributes := #[] }, { accessFlags := 10, nameIndex := 221, descriptorIndex := 222, attributes := #[] }, { accessFlags := 8, nameIndex := 562, descriptorIndex := 563, attributes := #[] }])
  fields := #[{ name := "in", type := (.object "java/io/InputStream"), accessFlags := 25, slot := 0, constantValue := 0 }, { name := "out", type := (.object "java/io/PrintStream"), accessFlags := 25, slot := 1, constantValue := 0 }, { name := "err", type := (.object "java/io/PrintStream"), accessFlags := 25, slot := 2, constantValue := 0 }, { name := "initialIn", type := (.object "java/io/InputStream"), accessFlags := 10, slot := 3, constantValue := 0 }, { name := "NEVER", type := .int, accessFlags := 26, slot := 4, constantValue := 0 }, { name := "MAYBE", type := .int, accessFlags := 26, slot := 5, constantValue := 0 }, { name := "allowSecurityManager", type := .int, accessFlags := 10, slot := 6, constantValue := 0 }, { name := "security", type := (.object "java/lang/SecurityManager"), accessFlags := 74, slot := 7, constantValue := 0 }, { name := "notSupportedJnuEncoding", type := (.object "java/lang/String"), accessFlags := 10, slot := 8, constantValue := 0 }, { name := "cons", type := (.object "java/io/Console"), accessFlags := 74, slot := 9, constantValue := 0 }, { name := "initialErrStream", type := (.object "java/io/PrintStream"), accessFlags := 74, slot := 10, constantValue := 0 }, { name := "props", type := (.object "java/util/Properties"), accessFlags := 10, slot := 11, constantValue := 0 }, { name := "lineSeparator", type := (.object "java/lang/String"), accessFlags := 10, slot := 12, constantValue := 0 }, { name := "bootLayer", type := (.object "java/lang/ModuleLayer"), accessFlags := 8, slot := 13, constantValue := 0 }]
  methods := #[k5m0, k5m1]
  instanceTypes := #[]
  staticTypes := #[(.object "java/io/InputStream"), (.object "java/io/PrintStream"), (.object "java/io/PrintStream"), (.object "java/io/InputStream"), .int, .int, .int, (.object "java/lang/SecurityManager"), (.object "java/lang/String"), (.object "java/io/Console"), (.object "java/io/PrintStream"), (.object "java/util/Properties"), (.object "java/lang/String"), (.object "java/lang/ModuleLayer")]
  resolved := Array.replicate 834 none
  statics := none }

def pool6 : Array CpInfo := pool [(1, u "java/lang/Cloneable"), (0, .class_ 1), (0, u "java/lang/Object"), (0, .class_ 3)] 3

/-- java/lang/Cloneable -/
def k6 : Class := { plain "java/lang/Cloneable" (some 0) with
  accessFlags := 1537
  interfaces := #[]
  cf := some (fileOf pool6 2 #[] #[] 1537 4 #[] #[])
  fields := #[]
  methods := #[]
  instanceTypes := #[]
  staticTypes := #[]
  resolved := Array.replicate 8 none
  statics := none }

def pool7 : Array CpInfo := pool [(1, u "java/io/Serializable"), (0, .class_ 1), (0, u "java/lang/Object"), (0, .class_ 3)] 3

/-- java/io/Serializable -/
def k7 : Class := { plain "java/io/Serializable" (some 0) with
  accessFlags := 1537
  interfaces := #[]
  cf := some (fileOf pool7 2 #[] #[] 1537 4 #[] #[])
  fields := #[]
  methods := #[]
  instanceTypes := #[]
  staticTypes := #[]
  resolved := Array.replicate 8 none
  statics := none }

/-- the primitive byte -/
def k8 : Class := { plain "byte" none with kind := .primitive 'B', accessFlags := 0x411 }
/-- [B -/
def k9 : Class := { plain "[B" (some 0) with kind := .array 8 .byte, interfaces := #[6, 7], accessFlags := 1041 }

/-- the primitive int -/
def k10 : Class := { plain "int" none with kind := .primitive 'I', accessFlags := 0x411 }
/-- [I -/
def k11 : Class := { plain "[I" (some 0) with kind := .array 10 .int, interfaces := #[6, 7], accessFlags := 1041 }

/-- the primitive double -/
def k12 : Class := { plain "double" none with kind := .primitive 'D', accessFlags := 0x411 }
/-- [D -/
def k13 : Class := { plain "[D" (some 0) with kind := .array 12 .double, interfaces := #[6, 7], accessFlags := 1041 }
def heap : Heap := #[]
def classes : Array Class := #[k0, k1, k2, k3, k4, k5, k6, k7, k8, k9, k10, k11, k12, k13]
def interned : List (Array UInt16 × Addr) := []
def slotsUsed : Nat := 0
def theMethod : MethodId := ⟨1, 3⟩
def args0 : Array Value := #[.int 5, .int 5, .int 5, .int 5]
def aboutOver (below : List Frame) : State where
  vm := { classes := classes, interned := interned.toArray }
  heap := heap
  slotsUsed := slotsUsed
  threads := #[{ frames := .invoking theMethod args0 :: below }]
def below0 : List Frame := [.native { method := ⟨0, 0⟩, args := #[] }]
def about1 : State := aboutOver below0
def p0 : Program := .bare "" "" ""
def e0 : Env := launch0.env 0 0 0
theorem w_frames : about1.frames = Frame.invoking theMethod args0 :: below0 := rfl
set_option maxRecDepth 65536 in
theorem w_args : argsFit about1.vm theMethod args0 = true := by decide +kernel
set_option maxRecDepth 65536 in
theorem w_heap : heapFits about1 = true := by decide +kernel
set_option maxRecDepth 65536 in
theorem w_runnable : about1.curStatus? = some .runnable := by decide +kernel
set_option maxRecDepth 65536 in
theorem w_alone : about1.alone = true := by decide +kernel
set_option maxRecDepth 65536 in
theorem w_named : about1.methodNamed? x = some theMethod := by decide +kernel
set_option maxRecDepth 65536 in
theorem w_hears : about1.hears theMethod below0 = true := by decide +kernel
set_option maxRecDepth 65536 in
theorem w_ripe : about1.ripe theMethod args0 below0 = true := by decide +kernel
theorem w_running : about1.status = .running := rfl
set_option maxRecDepth 65536 in
theorem w_room : about1.hasRoom e0.platform room_1 = true :=
  launch0.hasRoom_least _ room_1 (by decide +kernel) (by decide +kernel) (by decide +kernel) (by decide +kernel) (by decide +kernel) (by decide +kernel)
theorem allAtoms_all (ts : List Jvm.Cond) (a : Array Jvm.Value) (st : Jvm.State) : (allAtoms ts).before a st = ts.all (fun c => c.before a st) := by
  induction ts with
  | nil => rfl
  | cons c t ih =>
    show (Jvm.Cond.and c (allAtoms t)).before a st = _
    rw [Jvm.Cond.before_and, ih, List.all_cons]
def words1 : List Jvm.Cond := Jvm.Cond.code x code maxLocals ret :: tables_1
/-- a 'code' word, met by the world's own term for the bytes: nothing is compared byte by byte -/
theorem code_word {y : MethodName} {bytes : ByteArray} {mx : Nat} {rt : Option FieldType} {a : Array Value} {s : State} {m : MethodId} {meth : Method} {c : Code} (h1 : s.methodNamed? y = some m) (h2 : s.vm.method? m = some meth) (h3 : meth.code = some c) (h4 : c.code = bytes)
    (h5 : (c.maxLocals == mx && c.exceptionTable.isEmpty && decide (c.maxStack ≤ mostOperands) && decide (meth.sig.returnType = rt) && !meth.locks && decide (parseMethodDescriptor y.desc = some meth.sig)) = true) : (Jvm.Cond.code y bytes mx rt).before a s = true := by
  simp only [Bool.and_eq_true, beq_iff_eq, Bool.not_eq_true', decide_eq_true_eq] at h5
  obtain ⟨⟨⟨⟨⟨g1, g2⟩, g3⟩, g4⟩, g5⟩, g6⟩ := h5
  simp [Cond.before, Cond.holds, Cond.value, h1, h2, h3, h4, g1, g2, g3, g4, g5, g6]
def isCode : Jvm.Cond → Bool
  | .code _ _ _ _ => true
  | _ => false
theorem all_split {L : List Jvm.Cond} {P : Jvm.Cond → Bool} (h1 : L.all (fun c => isCode c || P c) = true) (h2 : ∀ c ∈ L.filter isCode, P c = true) : L.all P = true := by
  refine List.all_eq_true.mpr fun c hc => ?_
  have h := List.all_eq_true.mp h1 c hc
  rcases Bool.eq_false_or_eq_true (isCode c) with hi | hi
  · exact h2 c (List.mem_filter.mpr ⟨hc, hi⟩)
  · simpa [hi] using h
set_option maxRecDepth 65536 in
theorem w_c0 : (Jvm.Cond.code x code maxLocals ret).before args0 about1 = true := code_word (m := ⟨1, 3⟩) (meth := k1m3) (c := k1c3) (by decide +kernel) rfl rfl rfl (by decide +kernel)
set_option maxRecDepth 65536 in
theorem w_c1 : (Jvm.Cond.code ({ cls := "com/example/sieve_for_links/sieveforlinks/VirtualLinks", name := "<init>", desc := "([I[DI)V" } : Jvm.MethodName) prog_33_method_1_code (9 : Nat) (Option.none : Option Jvm.ClassFile.FieldType)).before args0 about1 = true := code_word (m := ⟨2, 0⟩) (meth := k2m0) (c := k2c0) (by decide +kernel) rfl rfl rfl (by decide +kernel)
set_option maxRecDepth 65536 in
theorem w_c2 : (Jvm.Cond.code ({ cls := "java/lang/Object", name := "<init>", desc := "()V" } : Jvm.MethodName) object_method_1_code (1 : Nat) (Option.none : Option Jvm.ClassFile.FieldType)).before args0 about1 = true := code_word (m := ⟨0, 0⟩) (meth := k0m0) (c := k0c0) (by decide +kernel) rfl rfl rfl (by decide +kernel)
set_option maxRecDepth 65536 in
theorem w_c3 : (Jvm.Cond.code ({ cls := "java/util/Arrays", name := "copyOf", desc := "([II)[I" } : Jvm.MethodName) jdk_65_method_123_code (3 : Nat) (Option.some (Jvm.ClassFile.FieldType.array Jvm.ClassFile.FieldType.int))).before args0 about1 = true := code_word (m := ⟨3, 1⟩) (meth := k3m1) (c := k3c1) (by decide +kernel) rfl rfl rfl (by decide +kernel)
set_option maxRecDepth 65536 in
theorem w_c4 : (Jvm.Cond.code ({ cls := "java/lang/Math", name := "min", desc := "(II)I" } : Jvm.MethodName) jdk_29_method_69_code (2 : Nat) (Option.some Jvm.ClassFile.FieldType.int)).before args0 about1 = true := code_word (m := ⟨4, 1⟩) (meth := k4m1) (c := k4c1) (by decide +kernel) rfl rfl rfl (by decide +kernel)
set_option maxRecDepth 65536 in
theorem w_c5 : (Jvm.Cond.code ({ cls := "com/example/sieve_for_links/sieveforlinks/VirtualLinks", name := "fits", desc := "(I)Z" } : Jvm.MethodName) prog_33_method_2_code (2 : Nat) (Option.some Jvm.ClassFile.FieldType.boolean)).before args0 about1 = true := code_word (m := ⟨2, 1⟩) (meth := k2m1) (c := k2c1) (by decide +kernel) rfl rfl rfl (by decide +kernel)
set_option maxRecDepth 65536 in
theorem w_c6 : (Jvm.Cond.code ({ cls := "com/example/sieve_for_links/sieveforlinks/VirtualLinksFitsPinLaw", name := "pick", desc := "(II)I" } : Jvm.MethodName) method_2_code (2 : Nat) (Option.some Jvm.ClassFile.FieldType.int)).before args0 about1 = true := code_word (m := ⟨1, 1⟩) (meth := k1m1) (c := k1c1) (by decide +kernel) rfl rfl rfl (by decide +kernel)
set_option maxRecDepth 65536 in
theorem w_c7 : (Jvm.Cond.code ({ cls := "com/example/sieve_for_links/sieveforlinks/VirtualLinksFitsPinLaw", name := "shareOf", desc := "(III)D" } : Jvm.MethodName) method_3_code (3 : Nat) (Option.some Jvm.ClassFile.FieldType.double)).before args0 about1 = true := code_word (m := ⟨1, 2⟩) (meth := k1m2) (c := k1c2) (by decide +kernel) rfl rfl rfl (by decide +kernel)
def codes1 : List Jvm.Cond := [Jvm.Cond.code x code maxLocals ret, Jvm.Cond.code ({ cls := "com/example/sieve_for_links/sieveforlinks/VirtualLinks", name := "<init>", desc := "([I[DI)V" } : Jvm.MethodName) prog_33_method_1_code (9 : Nat) (Option.none : Option Jvm.ClassFile.FieldType), Jvm.Cond.code ({ cls := "java/lang/Object", name := "<init>", desc := "()V" } : Jvm.MethodName) object_method_1_code (1 : Nat) (Option.none : Option Jvm.ClassFile.FieldType), Jvm.Cond.code ({ cls := "java/util/Arrays", name := "copyOf", desc := "([II)[I" } : Jvm.MethodName) jdk_65_method_123_code (3 : Nat) (Option.some (Jvm.ClassFile.FieldType.array Jvm.ClassFile.FieldType.int)), Jvm.Cond.code ({ cls := "java/lang/Math", name := "min", desc := "(II)I" } : Jvm.MethodName) jdk_29_method_69_code (2 : Nat) (Option.some Jvm.ClassFile.FieldType.int), Jvm.Cond.code ({ cls := "com/example/sieve_for_links/sieveforlinks/VirtualLinks", name := "fits", desc := "(I)Z" } : Jvm.MethodName) prog_33_method_2_code (2 : Nat) (Option.some Jvm.ClassFile.FieldType.boolean), Jvm.Cond.code ({ cls := "com/example/sieve_for_links/sieveforlinks/VirtualLinksFitsPinLaw", name := "pick", desc := "(II)I" } : Jvm.MethodName) method_2_code (2 : Nat) (Option.some Jvm.ClassFile.FieldType.int), Jvm.Cond.code ({ cls := "com/example/sieve_for_links/sieveforlinks/VirtualLinksFitsPinLaw", name := "shareOf", desc := "(III)D" } : Jvm.MethodName) method_3_code (3 : Nat) (Option.some Jvm.ClassFile.FieldType.double)]
set_option maxRecDepth 65536 in
theorem codes_eq : words1.filter isCode = codes1 := rfl
theorem w_codes : ∀ c ∈ words1.filter isCode, c.before args0 about1 = true := by
  rw [codes_eq]
  intro c hc
  simp only [codes1, List.mem_cons, List.not_mem_nil, or_false] at hc
  rcases hc with rfl | rfl | rfl | rfl | rfl | rfl | rfl | rfl
  · exact w_c0
  · exact w_c1
  · exact w_c2
  · exact w_c3
  · exact w_c4
  · exact w_c5
  · exact w_c6
  · exact w_c7
set_option maxRecDepth 65536 in
theorem w_t1 : (words1.take 24).all (fun c => isCode c || c.before args0 about1) = true := by decide +kernel
set_option maxRecDepth 65536 in
theorem w_t2 : (words1.drop 24).all (fun c => isCode c || c.before args0 about1) = true := by decide +kernel
theorem w_tables : (allAtoms (Jvm.Cond.code x code maxLocals ret :: tables_1)).before args0 about1 = true := by
  rw [allAtoms_all]
  show words1.all (fun c => c.before args0 about1) = true
  refine all_split ?_ w_codes
  rw [← List.take_append_drop 24 words1, List.all_append, w_t1, w_t2]
  rfl
set_option maxRecDepth 65536 in
theorem w_case : (Jvm.Cond.and given_1 narrow_1).before args0 about1 = true := by decide +kernel
theorem w_applies : (headSpec (Jvm.Cond.code x code maxLocals ret :: tables_1) room_1).applies x e0.platform about1 = true :=
  (Spec.applies_iff w_frames).mpr ⟨w_running, w_runnable, w_alone, w_named, w_hears, w_ripe, w_room, w_tables⟩
theorem atStart : AtStart classFile x code maxLocals ret World_1 tables_1 room_1 Calls_1 rest_1 Pre_1 launch0 p0 e0 about1 theMethod args0 below0 :=
  ⟨lists_1, trivial, launch0.admits_env _ _ _, launch0.least_env, fairChoices_fair.cas, fairChoices_fair.clock, w_frames, w_args, w_heap, w_applies, trivial, trivial, w_case⟩
end start1
theorem witness_1 : WitnessClaimed_1 := ⟨start1.p0, start1.e0, start1.about1, start1.theMethod, start1.args0, start1.below0, start1.atStart⟩
end Jvm.Pilot.@@N@@
