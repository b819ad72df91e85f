import JvmDerived
import JvmDerived.Pilot.@@N@@Statement
import JvmDerived.Pilot.@@N@@Code
set_option linter.unusedVariables false
set_option linter.unusedSimpArgs false
namespace Jvm.OwnW
open Sem ClassFile Op Lib Jvm.Stand Jvm.Free Jvm.LawKit Jvm.RoadKit
/-- what a walk knows of its method and of the run -/
def Cx (p : Program) (s : State) (m : MethodId) (meth : Method) (c : Code) (Z : State) (y : MethodName) (bs : ByteArray) (ml : Nat) (ret : Option FieldType) : Prop :=
  p.tables.exec = Jvm.exec ∧ c.code = bs ∧ c.maxLocals = ml ∧ s.vm.findClass y.cls = some m.cls ∧ meth.name = y.name ∧ meth.sig.returnType = ret ∧ meth.locks = false ∧ Z.Warmed39 s.vm
/-- from the state u the body comes to its end, returns v and leaves the heap as Q says; it wrote cells from n0 on alone -/
def Runs (p : Program) (e : Env) (below : List Frame) (s : State) (R : Room) (n0 : Nat) (Q : Option Value → Heap → Prop) (u : State) : Prop :=
  ∃ s₂ o, Steps p.tables e below u s₂ ∧ s₂.status = .running ∧ Ended s₂ below o ∧ ∃ v Ls, o = .returned v ∧ (Q v s₂.heap ∧ Fr n0 Ls) ∧ FrameEnd s o s₂ Ls R.cells R.slots
/-- from pc with these locals and this stack, the heap being h, k cells and n slots made so far: the body ends as Q says -/
def Go (l : Launch) (Z : State) (R : Room) (y : MethodName) (bs : ByteArray) (ml : Nat) (ret : Option FieldType) (n0 : Nat) (Q : Option Value → Heap → Prop) (h : Heap) (k n : Nat) (pc : Nat) (L : Array Slot) (St : List Value) : Prop :=
  ∀ (p : Program) (e : Env) (s : State) (m : MethodId) (args : Array Value) (below : List Frame) (meth : Method) (c : Code) (T : State) (locs : List Loc),
    Cx p s m meth c Z y bs ml ret → Stand p l e R s m args below meth c T locs k n → Fr n0 locs → T.heap = h → Runs p e below s R n0 Q (T.setTop (mkF m pc L St))
/-- it returns r, the heap as it was -/
def Ret (r : Option Value) (h0 : Heap) : Option Value → Heap → Prop := fun v h => v = r ∧ h0 = h
/-- the law says 1 -/
def One1 : Option Value → Heap → Prop := fun v _ => v = some (.int 1)
/-- the body's contract -/
def Con (l : Launch) (Z : State) (R : Room) (y : MethodName) (bs : ByteArray) (ml : Nat) (ret : Option FieldType) (n0 : Nat) (as' : Array Value) (h : Heap) (Q : Option Value → Heap → Prop) : Prop :=
  ∀ ws, MetFree l y (head1 (Jvm.Cond.code y bs ml ret :: ws) R) (fun a U => a = as' ∧ Z.Warmed39 U.vm ∧ U.heap = h) (fun _ _ _ _ _ => True) (fun _ U o U' => ∃ v Ls, o = .returned v ∧ (Q v U'.heap ∧ Fr n0 Ls) ∧ FrameEnd U o U' Ls R.cells R.slots)
theorem Runs.thru {p : Program} {e : Env} {below : List Frame} {s : State} {R : Room} {n0 : Nat} {Q : Option Value → Heap → Prop} {u u' : State} (q : Runs p e below s R n0 Q u') (st : ∀ t, Steps p.tables e below u' t → Steps p.tables e below u t) : Runs p e below s R n0 Q u := by
  obtain ⟨s₂, o, h1, r⟩ := q
  exact ⟨s₂, o, st _ h1, r⟩
/-- what stood in h0 stands in h -/
theorem ext_refl (h : Heap) : Ext h h := ⟨Nat.le_refl _, fun _ _ q => q⟩
theorem ext_trans {h0 h h' : Heap} (X : Ext h0 h) (E : Ext h h') : Ext h0 h' := ⟨Nat.le_trans X.1 E.1, fun a c q => E.2 a c (X.2 a c q)⟩
theorem ext_keep {h0 h h' : Heap} {ws : List Addr} (X : Ext h0 h) (K : Keep h h' ws) (q : ∀ x ∈ ws, h0.size ≤ x) : Ext h0 h' :=
  ⟨Nat.le_trans X.1 K.1, fun a c r => K.2.1 a c (X.2 a c r) fun z => absurd (Array.getElem?_eq_some_iff.mp r).1 (Nat.not_lt.mpr (q a z))⟩
theorem ext_wr {h0 h h' : Heap} {a : Addr} {sl : Nat} {v : Value} (X : Ext h0 h) (W : Wr h h' a sl v) (q : h0.size ≤ a) : Ext h0 h' := ext_keep X (Keep.of_wr W) (allS q all0)
theorem exa_ns {Z : State} {h : Heap} {a : Addr} {C : String} (E : Exa Z h a C) : ∀ c : Cell, h[a]? = some c → c.vm.isStatics = false := fun c q => by
  obtain ⟨cell, k, h1, -, -, h4, -⟩ := E
  cases h1.symm.trans q
  exact h4
theorem sta_keep {Z : State} {h h' : Heap} {C n d : String} {w : Value} {ws : List Addr} (F : Sta Z h C n d w) (K : Keep h h' ws) (q : ∀ x ∈ ws, ∀ c : Cell, h[x]? = some c → c.vm.isStatics = false) : Sta Z h' C n d w := by
  obtain ⟨cf, i, k, f, st, cell, h1, h2, h3, h4, h5, h6, h7⟩ := F
  exact ⟨cf, i, k, f, st, cell, h1, h2, h3, h4, K.2.1 st cell h5 (fun m => by have r := q st m cell h5; rw [h6] at r; cases r), h6, h7⟩
theorem eqI {args : Array Value} {first s : State} {o : Option Outcome} {idx : List Nat} {a b : Term} {k : Int32} (h : (Cond.eq a b).value args first o s idx = some true) (hb : b.eval args first o idx s = some (.int k)) : a.eval args first o idx s = some (.int k) := by
  obtain ⟨x, z, e1, e2, k1, k2⟩ := cmp_v (Or.inl h)
  cases hb.symm.trans e2
  obtain ⟨w, rfl⟩ := k2
  have h' := h
  simp only [Cond.value, e1, hb, Option.some.injEq, decide_eq_true_eq] at h'
  rw [e1, h']
theorem eqJ {args : Array Value} {first s : State} {o : Option Outcome} {idx : List Nat} {a b : Term} {k : Int64} (h : (Cond.eq a b).value args first o s idx = some true) (hb : b.eval args first o idx s = some (.long k)) : a.eval args first o idx s = some (.long k) := by
  obtain ⟨x, z, e1, e2, k1, k2⟩ := cmp_v (Or.inl h)
  cases hb.symm.trans e2
  obtain ⟨w, rfl⟩ := k2
  have h' := h
  simp only [Cond.value, e1, hb, Option.some.injEq, decide_eq_true_eq] at h'
  rw [e1, h']
theorem arrClass {Z : State} {a0 : Array Value} {C : String} (w : (Cond.arrayOver (.object C)).before a0 Z = true) : (Cond.arrayClass (.object C)).before a0 Z = true := by
  obtain ⟨comp, c, k, -, -, h3, h4, h5⟩ := Cond.arrayOver_spec w
  simp [Cond.before, Cond.holds, Cond.value, h5, h3, h4]
theorem ovrOf {Z : State} {a0 : Array Value} {C : String} {cI : ClassId} (w : (Cond.arrayOver (.object C)).before a0 Z = true) (h : Z.vm.findClass (FieldType.array (.object C)).toString = some cI) : Ovr Z cI C := by
  obtain ⟨comp, c, k, h1, -, h3, h4, h5⟩ := Cond.arrayOver_spec w
  have e : (FieldType.array (.object C)).toString = "[" ++ (FieldType.object C).toString := rfl
  rw [e, h5] at h
  cases h
  exact ⟨k, comp, h3, h4, h1⟩
section Laws
variable {l : Launch} {Z : State} {R : Room} {y : MethodName} {bs : ByteArray} {ml : Nat} {ret : Option FieldType} {n0 : Nat} {Q : Option Value → Heap → Prop} {h : Heap} {k n : Nat} {k' n' : Nat} {pc pc' : Nat} {L L' : Array Slot} {St : List Value} {a0 : Array Value}
theorem Con.of {as' : Array Value} (pn : plainFor y = true) (ef : ∀ m, entryFrame m as' ml = mkF m 0 L []) (b : Go l Z R y bs ml ret n0 Q h 0 0 0 L []) : Con l Z R y bs ml ret n0 as' h Q := by
  intro ws
  refine MetFree.of_bodySF pn hisR ?_
  intro p e s m args below meth c s₁ Bd hml0 hP hK
  obtain ⟨rfl, hZ, hh⟩ := hP
  have X0 : Stand p l e R s m args below meth c s₁ [] 0 0 := Stand.of_body Bd
  have e0 : s₁.heap = h := by rw [← hh, Bd.state]; rfl
  have q := b p e s m args below meth c s₁ [] ⟨Bd.exec, Bd.bytes, hml0, findClass_of_methodNamed Bd.named, (name_of_methodNamed Bd.named Bd.method).1, Bd.returns, Bd.notSynchronized, hZ⟩ X0 (Fr.nil n0) e0
  rw [← ef m] at q
  exact q
theorem Con.mono {as' : Array Value} {Q' : Option Value → Heap → Prop} (q : Con l Z R y bs ml ret n0 as' h Q) (i : ∀ v h', Q v h' → Q' v h') : Con l Z R y bs ml ret n0 as' h Q' := by
  intro ws p e ha hc hk s m args below hf happ hP hK
  obtain ⟨s₂, o, h1, h2, h3, v, Ls, h4, ⟨h5, h6⟩, h7⟩ := q ws p e ha hc hk s m args below hf happ hP hK
  exact ⟨s₂, o, h1, h2, h3, v, Ls, h4, ⟨i _ _ h5, h6⟩, h7⟩
/-- the same, the heap's name turned -/
theorem Go.cast {h' : Heap} (e : h' = h) (q : Go l Z R y bs ml ret n0 Q h' k n pc L St) : Go l Z R y bs ml ret n0 Q h k n pc L St := e ▸ q
theorem Go.more {k' n' : Nat} (hk : k ≤ k') (hn : n ≤ n') (q : Go l Z R y bs ml ret n0 Q h k' n' pc L St) : Go l Z R y bs ml ret n0 Q h k n pc L St := fun p e s m args below meth c T locs C X N eT => q p e s m args below meth c T locs C (X.mono hk hn) N eT
theorem Go.frm {St' : List Value} (q : Go l Z R y bs ml ret n0 Q h k n pc L' St') (e1 : L = L') (e2 : St = St') : Go l Z R y bs ml ret n0 Q h k n pc L St := by subst e1 e2; exact q

theorem iload {i : Nat} {v : Int32} (hd : decode bs pc = .ok (.iload i, 2)) (hl : L[i]? = some (.val (.int v))) (hp : pc + 2 = pc') (kt : Go l Z R y bs ml ret n0 Q h k n pc' L (.int v :: St)) : Go l Z R y bs ml ret n0 Q h k n pc L St := by
  subst hp
  intro p e s m args below meth c T locs C X N eT
  exact (kt p e s m args below meth c T locs C X N eT).thru fun t q => XS.iload X.here C.1 rfl (hb C.2.1 hd) hl q
theorem iloadN {i : Fin 4} {v : Int32} (hd : decode bs pc = .ok (.iload_n i, 1)) (hl : L[i.val]? = some (.val (.int v))) (hp : pc + 1 = pc') (kt : Go l Z R y bs ml ret n0 Q h k n pc' L (.int v :: St)) : Go l Z R y bs ml ret n0 Q h k n pc L St := by
  subst hp
  intro p e s m args below meth c T locs C X N eT
  exact (kt p e s m args below meth c T locs C X N eT).thru fun t q => XS.iloadN X.here C.1 rfl (hb C.2.1 hd) hl q
theorem istore {i : Nat} {v : Int32} (hd : decode bs pc = .ok (.istore i, 2)) (hl : storeLocals L i (.int v) = some L') (hp : pc + 2 = pc') (kt : Go l Z R y bs ml ret n0 Q h k n pc' L' St) : Go l Z R y bs ml ret n0 Q h k n pc L (.int v :: St) := by
  subst hp
  intro p e s m args below meth c T locs C X N eT
  exact (kt p e s m args below meth c T locs C X N eT).thru fun t q => XS.istore X.here C.1 rfl (hb C.2.1 hd) rfl hl q
theorem istoreN {i : Fin 4} {v : Int32} (hd : decode bs pc = .ok (.istore_n i, 1)) (hl : storeLocals L i.val (.int v) = some L') (hp : pc + 1 = pc') (kt : Go l Z R y bs ml ret n0 Q h k n pc' L' St) : Go l Z R y bs ml ret n0 Q h k n pc L (.int v :: St) := by
  subst hp
  intro p e s m args below meth c T locs C X N eT
  exact (kt p e s m args below meth c T locs C X N eT).thru fun t q => XS.istoreN X.here C.1 rfl (hb C.2.1 hd) rfl hl q
theorem lload {i : Nat} {v : Int64} (hd : decode bs pc = .ok (.lload i, 2)) (hl : L[i]? = some (.val (.long v))) (hp : pc + 2 = pc') (kt : Go l Z R y bs ml ret n0 Q h k n pc' L (.long v :: St)) : Go l Z R y bs ml ret n0 Q h k n pc L St := by
  subst hp
  intro p e s m args below meth c T locs C X N eT
  exact (kt p e s m args below meth c T locs C X N eT).thru fun t q => XS.lload X.here C.1 rfl (hb C.2.1 hd) hl q
theorem lloadN {i : Fin 4} {v : Int64} (hd : decode bs pc = .ok (.lload_n i, 1)) (hl : L[i.val]? = some (.val (.long v))) (hp : pc + 1 = pc') (kt : Go l Z R y bs ml ret n0 Q h k n pc' L (.long v :: St)) : Go l Z R y bs ml ret n0 Q h k n pc L St := by
  subst hp
  intro p e s m args below meth c T locs C X N eT
  exact (kt p e s m args below meth c T locs C X N eT).thru fun t q => XS.lloadN X.here C.1 rfl (hb C.2.1 hd) hl q
theorem lstore {i : Nat} {v : Int64} (hd : decode bs pc = .ok (.lstore i, 2)) (hl : storeLocals L i (.long v) = some L') (hp : pc + 2 = pc') (kt : Go l Z R y bs ml ret n0 Q h k n pc' L' St) : Go l Z R y bs ml ret n0 Q h k n pc L (.long v :: St) := by
  subst hp
  intro p e s m args below meth c T locs C X N eT
  exact (kt p e s m args below meth c T locs C X N eT).thru fun t q => XS.lstore X.here C.1 rfl (hb C.2.1 hd) rfl hl q
theorem lstoreN {i : Fin 4} {v : Int64} (hd : decode bs pc = .ok (.lstore_n i, 1)) (hl : storeLocals L i.val (.long v) = some L') (hp : pc + 1 = pc') (kt : Go l Z R y bs ml ret n0 Q h k n pc' L' St) : Go l Z R y bs ml ret n0 Q h k n pc L (.long v :: St) := by
  subst hp
  intro p e s m args below meth c T locs C X N eT
  exact (kt p e s m args below meth c T locs C X N eT).thru fun t q => XS.lstoreN X.here C.1 rfl (hb C.2.1 hd) rfl hl q
theorem aload {i : Nat} {v : Value} (hd : decode bs pc = .ok (.aload i, 2)) (hl : L[i]? = some (.val v)) (hv : v.isRef = true) (hp : pc + 2 = pc') (kt : Go l Z R y bs ml ret n0 Q h k n pc' L (v :: St)) : Go l Z R y bs ml ret n0 Q h k n pc L St := by
  subst hp
  intro p e s m args below meth c T locs C X N eT
  exact (kt p e s m args below meth c T locs C X N eT).thru fun t q => XS.aload X.here C.1 rfl (hb C.2.1 hd) hl hv q
theorem aloadN {i : Fin 4} {v : Value} (hd : decode bs pc = .ok (.aload_n i, 1)) (hl : L[i.val]? = some (.val v)) (hv : v.isRef = true) (hp : pc + 1 = pc') (kt : Go l Z R y bs ml ret n0 Q h k n pc' L (v :: St)) : Go l Z R y bs ml ret n0 Q h k n pc L St := by
  subst hp
  intro p e s m args below meth c T locs C X N eT
  exact (kt p e s m args below meth c T locs C X N eT).thru fun t q => XS.aloadN X.here C.1 rfl (hb C.2.1 hd) hl hv q
theorem astore {i : Nat} {v : Value} (hd : decode bs pc = .ok (.astore i, 2)) (hv : v.isRef = true) (hl : storeLocals L i v = some L') (hp : pc + 2 = pc') (kt : Go l Z R y bs ml ret n0 Q h k n pc' L' St) : Go l Z R y bs ml ret n0 Q h k n pc L (v :: St) := by
  subst hp
  intro p e s m args below meth c T locs C X N eT
  exact (kt p e s m args below meth c T locs C X N eT).thru fun t q => XS.astore X.here C.1 rfl (hb C.2.1 hd) rfl hv hl q
theorem astoreN {i : Fin 4} {v : Value} (hd : decode bs pc = .ok (.astore_n i, 1)) (hv : v.isRef = true) (hl : storeLocals L i.val v = some L') (hp : pc + 1 = pc') (kt : Go l Z R y bs ml ret n0 Q h k n pc' L' St) : Go l Z R y bs ml ret n0 Q h k n pc L (v :: St) := by
  subst hp
  intro p e s m args below meth c T locs C X N eT
  exact (kt p e s m args below meth c T locs C X N eT).thru fun t q => XS.astoreN X.here C.1 rfl (hb C.2.1 hd) rfl hv hl q
theorem iconst {i : Int} {v : Int32} (hd : decode bs pc = .ok (.iconst i, 1)) (hv : Int32.ofInt i = v) (hp : pc + 1 = pc') (kt : Go l Z R y bs ml ret n0 Q h k n pc' L (.int v :: St)) : Go l Z R y bs ml ret n0 Q h k n pc L St := by
  subst hp hv
  intro p e s m args below meth c T locs C X N eT
  exact (kt p e s m args below meth c T locs C X N eT).thru fun t q => XS.iconst X.here C.1 rfl (hb C.2.1 hd) q
theorem bipush {i : Int} {v : Int32} (hd : decode bs pc = .ok (.bipush i, 2)) (hv : (Int8.ofInt i).toInt32 = v) (hp : pc + 2 = pc') (kt : Go l Z R y bs ml ret n0 Q h k n pc' L (.int v :: St)) : Go l Z R y bs ml ret n0 Q h k n pc L St := by
  subst hp hv
  intro p e s m args below meth c T locs C X N eT
  exact (kt p e s m args below meth c T locs C X N eT).thru fun t q => XS.bipush X.here C.1 rfl (hb C.2.1 hd) q
theorem sipush {i : Int} {v : Int32} (hd : decode bs pc = .ok (.sipush i, 3)) (hv : (Int16.ofInt i).toInt32 = v) (hp : pc + 3 = pc') (kt : Go l Z R y bs ml ret n0 Q h k n pc' L (.int v :: St)) : Go l Z R y bs ml ret n0 Q h k n pc L St := by
  subst hp hv
  intro p e s m args below meth c T locs C X N eT
  exact (kt p e s m args below meth c T locs C X N eT).thru fun t q => XS.sipush X.here C.1 rfl (hb C.2.1 hd) q
theorem aconstNull  (hd : decode bs pc = .ok (.aconst_null, 1)) (hp : pc + 1 = pc') (kt : Go l Z R y bs ml ret n0 Q h k n pc' L (.null :: St)) : Go l Z R y bs ml ret n0 Q h k n pc L St := by
  subst hp
  intro p e s m args below meth c T locs C X N eT
  exact (kt p e s m args below meth c T locs C X N eT).thru fun t q => XS.aconstNull X.here C.1 rfl (hb C.2.1 hd) q
theorem iadd {x z : Int32} (hd : decode bs pc = .ok (.iadd, 1)) (hp : pc + 1 = pc') (kt : Go l Z R y bs ml ret n0 Q h k n pc' L (.int (x + z) :: St)) : Go l Z R y bs ml ret n0 Q h k n pc L (.int z :: .int x :: St) := by
  subst hp
  intro p e s m args below meth c T locs C X N eT
  exact (kt p e s m args below meth c T locs C X N eT).thru fun t q => XS.iadd X.here C.1 rfl (hb C.2.1 hd) rfl q
theorem isub {x z : Int32} (hd : decode bs pc = .ok (.isub, 1)) (hp : pc + 1 = pc') (kt : Go l Z R y bs ml ret n0 Q h k n pc' L (.int (x - z) :: St)) : Go l Z R y bs ml ret n0 Q h k n pc L (.int z :: .int x :: St) := by
  subst hp
  intro p e s m args below meth c T locs C X N eT
  exact (kt p e s m args below meth c T locs C X N eT).thru fun t q => XS.isub X.here C.1 rfl (hb C.2.1 hd) rfl q
theorem imul {x z : Int32} (hd : decode bs pc = .ok (.imul, 1)) (hp : pc + 1 = pc') (kt : Go l Z R y bs ml ret n0 Q h k n pc' L (.int (x * z) :: St)) : Go l Z R y bs ml ret n0 Q h k n pc L (.int z :: .int x :: St) := by
  subst hp
  intro p e s m args below meth c T locs C X N eT
  exact (kt p e s m args below meth c T locs C X N eT).thru fun t q => XS.imul X.here C.1 rfl (hb C.2.1 hd) rfl q
theorem iand {x z : Int32} (hd : decode bs pc = .ok (.iand, 1)) (hp : pc + 1 = pc') (kt : Go l Z R y bs ml ret n0 Q h k n pc' L (.int (x &&& z) :: St)) : Go l Z R y bs ml ret n0 Q h k n pc L (.int z :: .int x :: St) := by
  subst hp
  intro p e s m args below meth c T locs C X N eT
  exact (kt p e s m args below meth c T locs C X N eT).thru fun t q => XS.iand X.here C.1 rfl (hb C.2.1 hd) rfl q
theorem ior {x z : Int32} (hd : decode bs pc = .ok (.ior, 1)) (hp : pc + 1 = pc') (kt : Go l Z R y bs ml ret n0 Q h k n pc' L (.int (x ||| z) :: St)) : Go l Z R y bs ml ret n0 Q h k n pc L (.int z :: .int x :: St) := by
  subst hp
  intro p e s m args below meth c T locs C X N eT
  exact (kt p e s m args below meth c T locs C X N eT).thru fun t q => XS.ior X.here C.1 rfl (hb C.2.1 hd) rfl q
theorem ixor {x z : Int32} (hd : decode bs pc = .ok (.ixor, 1)) (hp : pc + 1 = pc') (kt : Go l Z R y bs ml ret n0 Q h k n pc' L (.int (x ^^^ z) :: St)) : Go l Z R y bs ml ret n0 Q h k n pc L (.int z :: .int x :: St) := by
  subst hp
  intro p e s m args below meth c T locs C X N eT
  exact (kt p e s m args below meth c T locs C X N eT).thru fun t q => XS.ixor X.here C.1 rfl (hb C.2.1 hd) rfl q
theorem ishl {x z : Int32} (hd : decode bs pc = .ok (.ishl, 1)) (hp : pc + 1 = pc') (kt : Go l Z R y bs ml ret n0 Q h k n pc' L (.int (x <<< (z &&& 31)) :: St)) : Go l Z R y bs ml ret n0 Q h k n pc L (.int z :: .int x :: St) := by
  subst hp
  intro p e s m args below meth c T locs C X N eT
  exact (kt p e s m args below meth c T locs C X N eT).thru fun t q => XS.ishl X.here C.1 rfl (hb C.2.1 hd) rfl q
theorem ishr {x z : Int32} (hd : decode bs pc = .ok (.ishr, 1)) (hp : pc + 1 = pc') (kt : Go l Z R y bs ml ret n0 Q h k n pc' L (.int (x >>> (z &&& 31)) :: St)) : Go l Z R y bs ml ret n0 Q h k n pc L (.int z :: .int x :: St) := by
  subst hp
  intro p e s m args below meth c T locs C X N eT
  exact (kt p e s m args below meth c T locs C X N eT).thru fun t q => XS.ishr X.here C.1 rfl (hb C.2.1 hd) rfl q
theorem iushr {x z : Int32} (hd : decode bs pc = .ok (.iushr, 1)) (hp : pc + 1 = pc') (kt : Go l Z R y bs ml ret n0 Q h k n pc' L (.int ((x.toUInt32 >>> (z &&& 31).toUInt32).toInt32) :: St)) : Go l Z R y bs ml ret n0 Q h k n pc L (.int z :: .int x :: St) := by
  subst hp
  intro p e s m args below meth c T locs C X N eT
  exact (kt p e s m args below meth c T locs C X N eT).thru fun t q => XS.iushr X.here C.1 rfl (hb C.2.1 hd) rfl q
theorem ladd {x z : Int64} (hd : decode bs pc = .ok (.ladd, 1)) (hp : pc + 1 = pc') (kt : Go l Z R y bs ml ret n0 Q h k n pc' L (.long (x + z) :: St)) : Go l Z R y bs ml ret n0 Q h k n pc L (.long z :: .long x :: St) := by
  subst hp
  intro p e s m args below meth c T locs C X N eT
  exact (kt p e s m args below meth c T locs C X N eT).thru fun t q => XS.ladd X.here C.1 rfl (hb C.2.1 hd) rfl q
theorem lsub {x z : Int64} (hd : decode bs pc = .ok (.lsub, 1)) (hp : pc + 1 = pc') (kt : Go l Z R y bs ml ret n0 Q h k n pc' L (.long (x - z) :: St)) : Go l Z R y bs ml ret n0 Q h k n pc L (.long z :: .long x :: St) := by
  subst hp
  intro p e s m args below meth c T locs C X N eT
  exact (kt p e s m args below meth c T locs C X N eT).thru fun t q => XS.lsub X.here C.1 rfl (hb C.2.1 hd) rfl q
theorem lmul {x z : Int64} (hd : decode bs pc = .ok (.lmul, 1)) (hp : pc + 1 = pc') (kt : Go l Z R y bs ml ret n0 Q h k n pc' L (.long (x * z) :: St)) : Go l Z R y bs ml ret n0 Q h k n pc L (.long z :: .long x :: St) := by
  subst hp
  intro p e s m args below meth c T locs C X N eT
  exact (kt p e s m args below meth c T locs C X N eT).thru fun t q => XS.lmul X.here C.1 rfl (hb C.2.1 hd) rfl q
theorem land {x z : Int64} (hd : decode bs pc = .ok (.land, 1)) (hp : pc + 1 = pc') (kt : Go l Z R y bs ml ret n0 Q h k n pc' L (.long (x &&& z) :: St)) : Go l Z R y bs ml ret n0 Q h k n pc L (.long z :: .long x :: St) := by
  subst hp
  intro p e s m args below meth c T locs C X N eT
  exact (kt p e s m args below meth c T locs C X N eT).thru fun t q => XS.land X.here C.1 rfl (hb C.2.1 hd) rfl q
theorem lor {x z : Int64} (hd : decode bs pc = .ok (.lor, 1)) (hp : pc + 1 = pc') (kt : Go l Z R y bs ml ret n0 Q h k n pc' L (.long (x ||| z) :: St)) : Go l Z R y bs ml ret n0 Q h k n pc L (.long z :: .long x :: St) := by
  subst hp
  intro p e s m args below meth c T locs C X N eT
  exact (kt p e s m args below meth c T locs C X N eT).thru fun t q => XS.lor X.here C.1 rfl (hb C.2.1 hd) rfl q
theorem lxor {x z : Int64} (hd : decode bs pc = .ok (.lxor, 1)) (hp : pc + 1 = pc') (kt : Go l Z R y bs ml ret n0 Q h k n pc' L (.long (x ^^^ z) :: St)) : Go l Z R y bs ml ret n0 Q h k n pc L (.long z :: .long x :: St) := by
  subst hp
  intro p e s m args below meth c T locs C X N eT
  exact (kt p e s m args below meth c T locs C X N eT).thru fun t q => XS.lxor X.here C.1 rfl (hb C.2.1 hd) rfl q
theorem lshl {x : Int64} {z : Int32} (hd : decode bs pc = .ok (.lshl, 1)) (hp : pc + 1 = pc') (kt : Go l Z R y bs ml ret n0 Q h k n pc' L (.long (x <<< (z &&& 0x3f).toInt64) :: St)) : Go l Z R y bs ml ret n0 Q h k n pc L (.int z :: .long x :: St) := by
  subst hp
  intro p e s m args below meth c T locs C X N eT
  exact (kt p e s m args below meth c T locs C X N eT).thru fun t q => XS.lshl X.here C.1 rfl (hb C.2.1 hd) rfl q
theorem lshr {x : Int64} {z : Int32} (hd : decode bs pc = .ok (.lshr, 1)) (hp : pc + 1 = pc') (kt : Go l Z R y bs ml ret n0 Q h k n pc' L (.long (x >>> (z &&& 0x3f).toInt64) :: St)) : Go l Z R y bs ml ret n0 Q h k n pc L (.int z :: .long x :: St) := by
  subst hp
  intro p e s m args below meth c T locs C X N eT
  exact (kt p e s m args below meth c T locs C X N eT).thru fun t q => XS.lshr X.here C.1 rfl (hb C.2.1 hd) rfl q
theorem lushr {x : Int64} {z : Int32} (hd : decode bs pc = .ok (.lushr, 1)) (hp : pc + 1 = pc') (kt : Go l Z R y bs ml ret n0 Q h k n pc' L (.long ((x.toUInt64 >>> (z &&& 0x3f).toInt64.toUInt64).toInt64) :: St)) : Go l Z R y bs ml ret n0 Q h k n pc L (.int z :: .long x :: St) := by
  subst hp
  intro p e s m args below meth c T locs C X N eT
  exact (kt p e s m args below meth c T locs C X N eT).thru fun t q => XS.lushr X.here C.1 rfl (hb C.2.1 hd) rfl q
theorem ineg {x : Int32} (hd : decode bs pc = .ok (.ineg, 1)) (hp : pc + 1 = pc') (kt : Go l Z R y bs ml ret n0 Q h k n pc' L (.int (-x) :: St)) : Go l Z R y bs ml ret n0 Q h k n pc L (.int x :: St) := by
  subst hp
  intro p e s m args below meth c T locs C X N eT
  exact (kt p e s m args below meth c T locs C X N eT).thru fun t q => XS.ineg X.here C.1 rfl (hb C.2.1 hd) rfl q
theorem lneg {x : Int64} (hd : decode bs pc = .ok (.lneg, 1)) (hp : pc + 1 = pc') (kt : Go l Z R y bs ml ret n0 Q h k n pc' L (.long (-x) :: St)) : Go l Z R y bs ml ret n0 Q h k n pc L (.long x :: St) := by
  subst hp
  intro p e s m args below meth c T locs C X N eT
  exact (kt p e s m args below meth c T locs C X N eT).thru fun t q => XS.lneg X.here C.1 rfl (hb C.2.1 hd) rfl q
theorem i2l {x : Int32} (hd : decode bs pc = .ok (.i2l, 1)) (hp : pc + 1 = pc') (kt : Go l Z R y bs ml ret n0 Q h k n pc' L (.long (x.toInt64) :: St)) : Go l Z R y bs ml ret n0 Q h k n pc L (.int x :: St) := by
  subst hp
  intro p e s m args below meth c T locs C X N eT
  exact (kt p e s m args below meth c T locs C X N eT).thru fun t q => XS.i2l X.here C.1 rfl (hb C.2.1 hd) rfl q
theorem l2i {x : Int64} (hd : decode bs pc = .ok (.l2i, 1)) (hp : pc + 1 = pc') (kt : Go l Z R y bs ml ret n0 Q h k n pc' L (.int (x.toInt32) :: St)) : Go l Z R y bs ml ret n0 Q h k n pc L (.long x :: St) := by
  subst hp
  intro p e s m args below meth c T locs C X N eT
  exact (kt p e s m args below meth c T locs C X N eT).thru fun t q => XS.l2i X.here C.1 rfl (hb C.2.1 hd) rfl q
theorem i2b {x : Int32} (hd : decode bs pc = .ok (.i2b, 1)) (hp : pc + 1 = pc') (kt : Go l Z R y bs ml ret n0 Q h k n pc' L (.int (x.toInt8.toInt32) :: St)) : Go l Z R y bs ml ret n0 Q h k n pc L (.int x :: St) := by
  subst hp
  intro p e s m args below meth c T locs C X N eT
  exact (kt p e s m args below meth c T locs C X N eT).thru fun t q => XS.i2b X.here C.1 rfl (hb C.2.1 hd) rfl q
theorem i2s {x : Int32} (hd : decode bs pc = .ok (.i2s, 1)) (hp : pc + 1 = pc') (kt : Go l Z R y bs ml ret n0 Q h k n pc' L (.int (x.toInt16.toInt32) :: St)) : Go l Z R y bs ml ret n0 Q h k n pc L (.int x :: St) := by
  subst hp
  intro p e s m args below meth c T locs C X N eT
  exact (kt p e s m args below meth c T locs C X N eT).thru fun t q => XS.i2s X.here C.1 rfl (hb C.2.1 hd) rfl q
theorem i2c {x : Int32} (hd : decode bs pc = .ok (.i2c, 1)) (hp : pc + 1 = pc') (kt : Go l Z R y bs ml ret n0 Q h k n pc' L (.int (x.toUInt32.toUInt16.toUInt32.toInt32) :: St)) : Go l Z R y bs ml ret n0 Q h k n pc L (.int x :: St) := by
  subst hp
  intro p e s m args below meth c T locs C X N eT
  exact (kt p e s m args below meth c T locs C X N eT).thru fun t q => XS.i2c X.here C.1 rfl (hb C.2.1 hd) rfl q
theorem lcmp {x z : Int64} (hd : decode bs pc = .ok (.lcmp, 1)) (hp : pc + 1 = pc') (kt : Go l Z R y bs ml ret n0 Q h k n pc' L (.int (lcmpW x z) :: St)) : Go l Z R y bs ml ret n0 Q h k n pc L (.long z :: .long x :: St) := by
  subst hp
  intro p e s m args below meth c T locs C X N eT
  exact (kt p e s m args below meth c T locs C X N eT).thru fun t q => XS.lcmp X.here C.1 rfl (hb C.2.1 hd) rfl q
theorem idiv {x z : Int32} (hd : decode bs pc = .ok (.idiv, 1)) (hz : z ≠ 0) (hp : pc + 1 = pc') (kt : Go l Z R y bs ml ret n0 Q h k n pc' L (.int (x / z) :: St)) : Go l Z R y bs ml ret n0 Q h k n pc L (.int z :: .int x :: St) := by
  subst hp
  intro p e s m args below meth c T locs C X N eT
  exact (kt p e s m args below meth c T locs C X N eT).thru fun t q => XS.idiv X.here C.1 rfl (hb C.2.1 hd) rfl hz q
theorem irem {x z : Int32} (hd : decode bs pc = .ok (.irem, 1)) (hz : z ≠ 0) (hp : pc + 1 = pc') (kt : Go l Z R y bs ml ret n0 Q h k n pc' L (.int (x % z) :: St)) : Go l Z R y bs ml ret n0 Q h k n pc L (.int z :: .int x :: St) := by
  subst hp
  intro p e s m args below meth c T locs C X N eT
  exact (kt p e s m args below meth c T locs C X N eT).thru fun t q => iremM X C.1 rfl (hb C.2.1 hd) rfl hz q
theorem lrem {x z : Int64} (hd : decode bs pc = .ok (.lrem, 1)) (hz : z ≠ 0) (hp : pc + 1 = pc') (kt : Go l Z R y bs ml ret n0 Q h k n pc' L (.long (x % z) :: St)) : Go l Z R y bs ml ret n0 Q h k n pc L (.long z :: .long x :: St) := by
  subst hp
  rw [← lrem_mod] at kt
  intro p e s m args below meth c T locs C X N eT
  exact (kt p e s m args below meth c T locs C X N eT).thru fun t q => XS.lrem X.here C.1 rfl (hb C.2.1 hd) rfl hz q
theorem ldiv {x z : Int64} (hd : decode bs pc = .ok (.ldiv, 1)) (hz : z ≠ 0) (hp : pc + 1 = pc') (kt : Go l Z R y bs ml ret n0 Q h k n pc' L (.long (x / z) :: St)) : Go l Z R y bs ml ret n0 Q h k n pc L (.long z :: .long x :: St) := by
  subst hp
  intro p e s m args below meth c T locs C X N eT
  exact (kt p e s m args below meth c T locs C X N eT).thru fun t q => XS.ldiv X.here C.1 rfl (hb C.2.1 hd) rfl hz q
theorem dup {v : Value} (hd : decode bs pc = .ok (.dup, 1)) (hc : v.category = 1) (hp : pc + 1 = pc') (kt : Go l Z R y bs ml ret n0 Q h k n pc' L (v :: v :: St)) : Go l Z R y bs ml ret n0 Q h k n pc L (v :: St) := by
  subst hp
  intro p e s m args below meth c T locs C X N eT
  exact (kt p e s m args below meth c T locs C X N eT).thru fun t q => XS.dup X.here C.1 rfl (hb C.2.1 hd) rfl hc q
theorem pop {v : Value} (hd : decode bs pc = .ok (.pop, 1)) (hc : v.category = 1) (hp : pc + 1 = pc') (kt : Go l Z R y bs ml ret n0 Q h k n pc' L St) : Go l Z R y bs ml ret n0 Q h k n pc L (v :: St) := by
  subst hp
  intro p e s m args below meth c T locs C X N eT
  exact (kt p e s m args below meth c T locs C X N eT).thru fun t q => XS.pop X.here C.1 rfl (hb C.2.1 hd) rfl hc q
theorem dupX1 {v w : Value} (hd : decode bs pc = .ok (.dup_x1, 1)) (hc : v.category = 1) (hw : w.category = 1) (hp : pc + 1 = pc') (kt : Go l Z R y bs ml ret n0 Q h k n pc' L (v :: w :: v :: St)) : Go l Z R y bs ml ret n0 Q h k n pc L (v :: w :: St) := by
  subst hp
  intro p e s m args below meth c T locs C X N eT
  exact (kt p e s m args below meth c T locs C X N eT).thru fun t q => XS.dupX1 X.here C.1 rfl (hb C.2.1 hd) rfl hc hw q
theorem dup2 {v w : Value} (hd : decode bs pc = .ok (.dup2, 1)) (hc : v.category = 1) (hw : w.category = 1) (hp : pc + 1 = pc') (kt : Go l Z R y bs ml ret n0 Q h k n pc' L (v :: w :: v :: w :: St)) : Go l Z R y bs ml ret n0 Q h k n pc L (v :: w :: St) := by
  subst hp
  intro p e s m args below meth c T locs C X N eT
  exact (kt p e s m args below meth c T locs C X N eT).thru fun t q => XT.dup2 X.here C.1 rfl (hb C.2.1 hd) rfl hc hw q
theorem dup2L {x : Int64} (hd : decode bs pc = .ok (.dup2, 1)) (hp : pc + 1 = pc') (kt : Go l Z R y bs ml ret n0 Q h k n pc' L (.long x :: .long x :: St)) : Go l Z R y bs ml ret n0 Q h k n pc L (.long x :: St) := by
  subst hp
  intro p e s m args below meth c T locs C X N eT
  exact (kt p e s m args below meth c T locs C X N eT).thru fun t q => XT.dup2L X.here C.1 rfl (hb C.2.1 hd) rfl q
theorem lconst {i : Fin 2} {v : Int64} (hd : decode bs pc = .ok (.lconst i, 1)) (hv : Int64.ofNat i.val = v) (hp : pc + 1 = pc') (kt : Go l Z R y bs ml ret n0 Q h k n pc' L (.long v :: St)) : Go l Z R y bs ml ret n0 Q h k n pc L St := by
  subst hp hv
  intro p e s m args below meth c T locs C X N eT
  exact (kt p e s m args below meth c T locs C X N eT).thru fun t q => XS.lconst X.here C.1 rfl (hb C.2.1 hd) q
theorem iinc {i : Nat} {cst : Int} {x d : Int32} (hd : decode bs pc = .ok (.iinc i cst, 3)) (hl : L[i]? = some (.val (.int x))) (hv : Int32.ofInt cst = d) (hs : storeLocals L i (.int (x + d)) = some L') (hp : pc + 3 = pc') (kt : Go l Z R y bs ml ret n0 Q h k n pc' L' St) : Go l Z R y bs ml ret n0 Q h k n pc L St := by
  subst hp hv
  intro p e s m args below meth c T locs C X N eT
  exact (kt p e s m args below meth c T locs C X N eT).thru fun t q => XS.iinc X.here C.1 rfl (hb C.2.1 hd) hl hs q
theorem goto {o : Int} (hd : decode bs pc = .ok (.goto o, 3)) (ho : 0 ≤ (pc : Int) + o) (hp : ((pc : Int) + o).toNat = pc') (kt : Go l Z R y bs ml ret n0 Q h k n pc' L St) : Go l Z R y bs ml ret n0 Q h k n pc L St := by
  intro p e s m args below meth c T locs C X N eT
  exact (kt p e s m args below meth c T locs C X N eT).thru fun t q => XS.goto X.here C.1 rfl rfl (hb C.2.1 hd) ho hp q
theorem icmpY {cd : ClassFile.Cond} {o : Int} {x z : Int32} (hd : decode bs pc = .ok (.if_icmp cd o, 3)) (hc : if_icmp.holds cd x z = true) (ho : 0 ≤ (pc : Int) + o) (hp : ((pc : Int) + o).toNat = pc') (kt : Go l Z R y bs ml ret n0 Q h k n pc' L St) : Go l Z R y bs ml ret n0 Q h k n pc L (.int z :: .int x :: St) := by
  intro p e s m args below meth c T locs C X N eT
  exact (kt p e s m args below meth c T locs C X N eT).thru fun t q => XS.icmpYes X.here C.1 rfl rfl (hb C.2.1 hd) rfl hc ho hp q
theorem icmpN {cd : ClassFile.Cond} {o : Int} {x z : Int32} (hd : decode bs pc = .ok (.if_icmp cd o, 3)) (hc : if_icmp.holds cd x z = false) (hp : pc + 3 = pc') (kt : Go l Z R y bs ml ret n0 Q h k n pc' L St) : Go l Z R y bs ml ret n0 Q h k n pc L (.int z :: .int x :: St) := by
  subst hp
  intro p e s m args below meth c T locs C X N eT
  exact (kt p e s m args below meth c T locs C X N eT).thru fun t q => XS.icmpNo X.here C.1 rfl (hb C.2.1 hd) rfl hc q
theorem ifcY {cd : ClassFile.Cond} {o : Int} {x : Int32} (hd : decode bs pc = .ok (.ifCond cd o, 3)) (hc : ifCond.holds cd x = true) (ho : 0 ≤ (pc : Int) + o) (hp : ((pc : Int) + o).toNat = pc') (kt : Go l Z R y bs ml ret n0 Q h k n pc' L St) : Go l Z R y bs ml ret n0 Q h k n pc L (.int x :: St) := by
  intro p e s m args below meth c T locs C X N eT
  exact (kt p e s m args below meth c T locs C X N eT).thru fun t q => XS.ifYes X.here C.1 rfl rfl (hb C.2.1 hd) rfl hc ho hp q
theorem ifcN {cd : ClassFile.Cond} {o : Int} {x : Int32} (hd : decode bs pc = .ok (.ifCond cd o, 3)) (hc : ifCond.holds cd x = false) (hp : pc + 3 = pc') (kt : Go l Z R y bs ml ret n0 Q h k n pc' L St) : Go l Z R y bs ml ret n0 Q h k n pc L (.int x :: St) := by
  subst hp
  intro p e s m args below meth c T locs C X N eT
  exact (kt p e s m args below meth c T locs C X N eT).thru fun t q => XS.ifNo X.here C.1 rfl (hb C.2.1 hd) rfl hc q
theorem ifnullY {o : Int}  (hd : decode bs pc = .ok (.ifnull o, 3)) (ho : 0 ≤ (pc : Int) + o) (hp : ((pc : Int) + o).toNat = pc') (kt : Go l Z R y bs ml ret n0 Q h k n pc' L St) : Go l Z R y bs ml ret n0 Q h k n pc L (.null :: St) := by
  intro p e s m args below meth c T locs C X N eT
  exact (kt p e s m args below meth c T locs C X N eT).thru fun t q => XS.ifnullYes X.here C.1 rfl rfl (hb C.2.1 hd) rfl ho hp q
theorem ifnullN {o : Int} {b : Addr} (hd : decode bs pc = .ok (.ifnull o, 3)) (hp : pc + 3 = pc') (kt : Go l Z R y bs ml ret n0 Q h k n pc' L St) : Go l Z R y bs ml ret n0 Q h k n pc L (.ref b :: St) := by
  subst hp
  intro p e s m args below meth c T locs C X N eT
  exact (kt p e s m args below meth c T locs C X N eT).thru fun t q => XS.ifnullNo X.here C.1 rfl (hb C.2.1 hd) rfl q
theorem ifnonnullY {o : Int} {b : Addr} (hd : decode bs pc = .ok (.ifnonnull o, 3)) (ho : 0 ≤ (pc : Int) + o) (hp : ((pc : Int) + o).toNat = pc') (kt : Go l Z R y bs ml ret n0 Q h k n pc' L St) : Go l Z R y bs ml ret n0 Q h k n pc L (.ref b :: St) := by
  intro p e s m args below meth c T locs C X N eT
  exact (kt p e s m args below meth c T locs C X N eT).thru fun t q => XS.ifnonnullYes X.here C.1 rfl rfl (hb C.2.1 hd) rfl ho hp q
theorem ifnonnullN {o : Int}  (hd : decode bs pc = .ok (.ifnonnull o, 3)) (hp : pc + 3 = pc') (kt : Go l Z R y bs ml ret n0 Q h k n pc' L St) : Go l Z R y bs ml ret n0 Q h k n pc L (.null :: St) := by
  subst hp
  intro p e s m args below meth c T locs C X N eT
  exact (kt p e s m args below meth c T locs C X N eT).thru fun t q => XS.ifnonnullNo X.here C.1 rfl (hb C.2.1 hd) rfl q
theorem acmp {cd : ACond} {o : Int} {x z : Value} {same : Bool} (hd : decode bs pc = .ok (.if_acmp cd o, 3)) (h1 : x.isRef = true) (h2 : z.isRef = true) (hq : decide (x = z) = same) (ho : 0 ≤ (pc : Int) + o) (hp : pc' = if acV cd same = true then ((pc : Int) + o).toNat else pc + 3) (kt : Go l Z R y bs ml ret n0 Q h k n pc' L St) : Go l Z R y bs ml ret n0 Q h k n pc L (z :: x :: St) := by
  intro p e s m args below meth c T locs C X N eT
  exact (kt p e s m args below meth c T locs C X N eT).thru fun t q => Jvm.RoadKit.acmp (g := mkF m pc L (z :: x :: St)) X C.1 rfl h1 h2 rfl (hb C.2.1 hd) rfl hq ho hp q
theorem pop2J {x : Int64} (hd : decode bs pc = .ok (.pop2, 1)) (hp : pc + 1 = pc') (kt : Go l Z R y bs ml ret n0 Q h k n pc' L St) : Go l Z R y bs ml ret n0 Q h k n pc L (.long x :: St) := by
  subst hp
  intro p e s m args below meth c T locs C X N eT
  have hx := C.1
  have hd' := hb C.2.1 hd
  refine (kt p e s m args below meth c T locs C X N eT).thru fun t q => ?_
  show Steps p.tables e below (T.setTop { method := m, pc := pc, locals := L, stack := .long x :: St, locked := none }) t
  jvm_step X.here [X.here.top, hx, hd', Value.category]
  exact q
theorem tswIn {dflt low high : Int} {offs : Array Int} {len : Nat} {o : Int} {i : Int32} (hd : decode bs pc = .ok (.tableswitch dflt low high offs, len)) (hin : ¬ (i.toInt < low ∨ i.toInt > high)) (hoff : offs[(i.toInt - low).toNat]? = some o) (ho : 0 ≤ (pc : Int) + o) (hp : ((pc : Int) + o).toNat = pc') (kt : Go l Z R y bs ml ret n0 Q h k n pc' L St) : Go l Z R y bs ml ret n0 Q h k n pc L (.int i :: St) := by
  intro p e s m args below meth c T locs C X N eT
  exact (kt p e s m args below meth c T locs C X N eT).thru fun t q => XS.tswIn X.here C.1 rfl rfl (hb C.2.1 hd) rfl hin hoff ho hp q
theorem tswOut {dflt low high : Int} {offs : Array Int} {len : Nat} {i : Int32} (hd : decode bs pc = .ok (.tableswitch dflt low high offs, len)) (hout : i.toInt < low ∨ i.toInt > high) (ho : 0 ≤ (pc : Int) + dflt) (hp : ((pc : Int) + dflt).toNat = pc') (kt : Go l Z R y bs ml ret n0 Q h k n pc' L St) : Go l Z R y bs ml ret n0 Q h k n pc L (.int i :: St) := by
  intro p e s m args below meth c T locs C X N eT
  exact (kt p e s m args below meth c T locs C X N eT).thru fun t q => XS.tswOut X.here C.1 rfl rfl (hb C.2.1 hd) rfl hout ho hp q
theorem ret0 (hd : decode bs pc = .ok (.return_, 1)) (hr : ret = none) (hk : k ≤ R.cells) (hn : n ≤ R.slots) (hQ : Q none h) : Go l Z R y bs ml ret n0 Q h k n pc L [] := by
  intro p e s m args below meth c T locs C X N eT
  have hret := C.2.2.2.2.2.1.trans hr
  obtain ⟨fs, hl, hrun, hended, hW, hsame⟩ := X.leave (v := none) (fun _ => rfl) C.2.2.2.2.2.2.1
  exact ⟨_, _, X.returnOut C.1 hret (hb C.2.1 hd) hl, hrun, hended, _, _, rfl, ⟨by show Q none T.heap; rw [eT]; exact hQ, N⟩, ⟨_, rfl⟩, hW, hsame.mono hk hn⟩
theorem retN {t : FieldType} {x x' : Int32} (hd : decode bs pc = .ok (.ireturn, 1)) (hr : ret = some t) (ht : t = .boolean ∨ t = .byte ∨ t = .char ∨ t = .short) (hx : nar t x = x') (hk : k ≤ R.cells) (hn : n ≤ R.slots) (hQ : Q (some (.int x')) h) : Go l Z R y bs ml ret n0 Q h k n pc L (.int x :: St) := by
  intro p e s m args below meth c T locs C X N eT
  have hret := C.2.2.2.2.2.1.trans hr
  subst hx
  obtain ⟨fs, hl, hrun, hended, hW, hsame⟩ := X.leave (v := some (.int (nar t x))) (fun q => by rw [hret] at q; cases q) C.2.2.2.2.2.2.1
  exact ⟨_, _, Jvm.RoadKit.retN X C.1 hret ht (hb C.2.1 hd) hl, hrun, hended, _, _, rfl, ⟨by show Q _ T.heap; rw [eT]; exact hQ, N⟩, ⟨_, rfl⟩, hW, hsame.mono hk hn⟩
theorem retI {x : Int32} (hd : decode bs pc = .ok (.ireturn, 1)) (hr : ret = some .int) (hk : k ≤ R.cells) (hn : n ≤ R.slots) (hQ : Q (some (.int x)) h) : Go l Z R y bs ml ret n0 Q h k n pc L (.int x :: St) := by
  intro p e s m args below meth c T locs C X N eT
  have hret := C.2.2.2.2.2.1.trans hr
  obtain ⟨fs, hl, hrun, hended, hW, hsame⟩ := X.leave (v := some (.int x)) (fun q => by rw [hret] at q; cases q) C.2.2.2.2.2.2.1
  exact ⟨_, _, Jvm.RoadKit.retOut X C.1 hret rfl (Or.inl ⟨rfl, Or.inl rfl, _, rfl⟩) (hb C.2.1 hd) hl, hrun, hended, _, _, rfl, ⟨by show Q _ T.heap; rw [eT]; exact hQ, N⟩, ⟨_, rfl⟩, hW, hsame.mono hk hn⟩
theorem retJ {x : Int64} (hd : decode bs pc = .ok (.lreturn, 1)) (hr : ret = some .long) (hk : k ≤ R.cells) (hn : n ≤ R.slots) (hQ : Q (some (.long x)) h) : Go l Z R y bs ml ret n0 Q h k n pc L (.long x :: St) := by
  intro p e s m args below meth c T locs C X N eT
  have hret := C.2.2.2.2.2.1.trans hr
  obtain ⟨fs, hl, hrun, hended, hW, hsame⟩ := X.leave (v := some (.long x)) (fun q => by rw [hret] at q; cases q) C.2.2.2.2.2.2.1
  exact ⟨_, _, Jvm.RoadKit.retOut X C.1 hret rfl (Or.inr (Or.inl ⟨rfl, rfl, _, rfl⟩)) (hb C.2.1 hd) hl, hrun, hended, _, _, rfl, ⟨by show Q _ T.heap; rw [eT]; exact hQ, N⟩, ⟨_, rfl⟩, hW, hsame.mono hk hn⟩
theorem retD {x : UInt64} (hd : decode bs pc = .ok (.dreturn, 1)) (hr : ret = some .double) (hk : k ≤ R.cells) (hn : n ≤ R.slots) (hQ : Q (some (.double x)) h) : Go l Z R y bs ml ret n0 Q h k n pc L (.double x :: St) := by
  intro p e s m args below meth c T locs C X N eT
  have hret := C.2.2.2.2.2.1.trans hr
  obtain ⟨fs, hl, hrun, hended, hW, hsame⟩ := X.leave (v := some (.double x)) (fun q => by rw [hret] at q; cases q) C.2.2.2.2.2.2.1
  exact ⟨_, _, Jvm.RoadKit.retOut X C.1 hret rfl (Or.inr (Or.inr (Or.inl ⟨rfl, rfl, _, rfl⟩))) (hb C.2.1 hd) hl, hrun, hended, _, _, rfl, ⟨by show Q _ T.heap; rw [eT]; exact hQ, N⟩, ⟨_, rfl⟩, hW, hsame.mono hk hn⟩
theorem retA {t : FieldType} {v : Value} (hd : decode bs pc = .ok (.areturn, 1)) (hr : ret = some t) (ht : t.isReference = true) (hv : v.isRef = true) (hk : k ≤ R.cells) (hn : n ≤ R.slots) (hQ : Q (some v) h) : Go l Z R y bs ml ret n0 Q h k n pc L (v :: St) := by
  intro p e s m args below meth c T locs C X N eT
  have hret := C.2.2.2.2.2.1.trans hr
  obtain ⟨fs, hl, hrun, hended, hW, hsame⟩ := X.leave (v := some v) (fun q => by rw [hret] at q; cases q) C.2.2.2.2.2.2.1
  have hna : narrow t v = v := by rcases ref_cases hv with rfl | ⟨a, rfl⟩ <;> cases t <;> first | rfl | (cases ht)
  exact ⟨_, _, Jvm.RoadKit.retOut X C.1 hret hna (Or.inr (Or.inr (Or.inr (Or.inr ⟨rfl, ht, hv⟩)))) (hb C.2.1 hd) hl, hrun, hended, _, _, rfl, ⟨by show Q _ T.heap; rw [eT]; exact hQ, N⟩, ⟨_, rfl⟩, hW, hsame.mono hk hn⟩
theorem ldcI {index : Nat} {v : Int32} (hd : decode bs pc = .ok (.ldc index, 2)) (w : (Cond.constant y.cls index v).before a0 Z = true) (hp : pc + 2 = pc') (kt : Go l Z R y bs ml ret n0 Q h k n pc' L (.int v :: St)) : Go l Z R y bs ml ret n0 Q h k n pc L St := by
  subst hp
  intro p e s m args below meth c T locs C X N eT
  exact (kt p e s m args below meth c T locs C X N eT).thru (X.ldcInt C.1 C.2.2.2.1 (mvT C.2.2.2.2.2.2.2 w) (g := mkF m pc L St) rfl (hb C.2.1 hd))
theorem ldcwI {index : Nat} {v : Int32} (hd : decode bs pc = .ok (.ldc_w index, 3)) (w : (Cond.constant y.cls index v).before a0 Z = true) (hp : pc + 3 = pc') (kt : Go l Z R y bs ml ret n0 Q h k n pc' L (.int v :: St)) : Go l Z R y bs ml ret n0 Q h k n pc L St := by
  subst hp
  intro p e s m args below meth c T locs C X N eT
  exact (kt p e s m args below meth c T locs C X N eT).thru (X.ldcwInt C.1 C.2.2.2.1 (mvT C.2.2.2.2.2.2.2 w) (g := mkF m pc L St) rfl (hb C.2.1 hd))
theorem ldc2J {index : Nat} {v : Int64} (hd : decode bs pc = .ok (.ldc2_w index, 3)) (w : (Cond.constantLong y.cls index v).before a0 Z = true) (hp : pc + 3 = pc') (kt : Go l Z R y bs ml ret n0 Q h k n pc' L (.long v :: St)) : Go l Z R y bs ml ret n0 Q h k n pc L St := by
  subst hp
  intro p e s m args below meth c T locs C X N eT
  exact (kt p e s m args below meth c T locs C X N eT).thru (X.ldc2Long C.1 C.2.2.2.1 (mvT C.2.2.2.2.2.2.2 w) (g := mkF m pc L St) rfl (hb C.2.1 hd))
theorem getF {R0 O nm d host : String} {index : Nat} {a : Addr} {v : Value} (hd : decode bs pc = .ok (.getfield index, 3)) (w : (Cond.fieldLink y.cls index R0 nm d).before a0 Z = true ∨ (Cond.fieldLinkNest y.cls index R0 nm d host).before a0 Z = true) (via : Via Z R0 O nm d) (F : Fld Z h a O nm d v) (hp : pc + 3 = pc') (kt : Go l Z R y bs ml ret n0 Q h k n pc' L (v :: St)) : Go l Z R y bs ml ret n0 Q h k n pc L (.ref a :: St) := by
  subst hp
  intro p e s m args below meth c T locs C X N eT
  obtain ⟨T', X', e', st⟩ := Jvm.RoadKit.getF X C.1 C.2.2.2.2.2.2.2 C.2.2.2.1 w via eT F (g := mkF m pc L (.ref a :: St)) rfl rfl (hb C.2.1 hd)
  exact (kt p e s m args below meth c T' locs C X' N e').thru st
theorem getS {R0 O nm d host : String} {index : Nat} {v : Value} (hd : decode bs pc = .ok (.getstatic index, 3)) (w : (Cond.fieldLink y.cls index R0 nm d).before a0 Z = true ∨ (Cond.fieldLinkNest y.cls index R0 nm d host).before a0 Z = true) (via : Via Z R0 O nm d) (F : Sta Z h O nm d v) (hp : pc + 3 = pc') (kt : Go l Z R y bs ml ret n0 Q h k n pc' L (v :: St)) : Go l Z R y bs ml ret n0 Q h k n pc L St := by
  subst hp
  intro p e s m args below meth c T locs C X N eT
  obtain ⟨T', X', e', st⟩ := getS2 X C.1 C.2.2.2.2.2.2.2 C.2.2.2.1 w via eT F (g := mkF m pc L St) rfl (hb C.2.1 hd)
  exact (kt p e s m args below meth c T' locs C X' N e').thru st
theorem putF {R0 O nm d host CC : String} {index kk : Nat} {ty : FieldType} {a : Addr} {v old : Value} (hd : decode bs pc = .ok (.putfield index, 3)) (w : (Cond.fieldLink y.cls index R0 nm d).before a0 Z = true ∨ (Cond.fieldLinkNest y.cls index R0 nm d host).before a0 Z = true) (via : Via Z R0 O nm d) (F : Fld Z h a O nm d old) (E : Exa Z h a CC)
    (Ly : (Cond.lays CC O nm d).before a0 Z = true ∨ ((Cond.laysFinal CC O nm d).before a0 Z = true ∧ y.cls = O ∧ y.name = "<init>")) (wi : (Cond.instantiable CC kk).before a0 Z = true) (hty : parseFieldDescriptor d = some ty) (hn : narrow ty v = v) (hf : fits ty v = true) (g : n0 ≤ a) (hp : pc + 3 = pc')
    (kt : ∀ h', Wr h h' a (Jvm.RoadKit.slotOf Z O nm d) v → Go l Z R y bs ml ret n0 Q h' k n pc' L St) : Go l Z R y bs ml ret n0 Q h k n pc L (v :: .ref a :: St) := by
  subst hp
  intro p e s m args below meth c T locs C X N eT
  obtain ⟨T', h', X', e', W', st⟩ := Jvm.RoadKit.putF X C.1 C.2.2.2.2.2.2.2 C.2.2.2.1 w via eT F E (Ly.imp id fun q => ⟨q.1, q.2.1, C.2.2.2.2.1.trans q.2.2⟩) wi hty hn hf (g := mkF m pc L (v :: .ref a :: St)) rfl rfl (hb C.2.1 hd)
  exact (kt h' W' p e s m args below meth c T' _ C X' (Fr.snoc X' N g) e').thru st
theorem putFN {R0 O nm d CC : String} {index kk : Nat} {ty : FieldType} {a : Addr} {v v' old : Value} (hd : decode bs pc = .ok (.putfield index, 3)) (w : (Cond.fieldLink y.cls index R0 nm d).before a0 Z = true) (via : Via Z R0 O nm d) (F : Fld Z h a O nm d old) (E : Exa Z h a CC)
    (Ly : (Cond.lays CC O nm d).before a0 Z = true ∨ ((Cond.laysFinal CC O nm d).before a0 Z = true ∧ y.cls = O ∧ y.name = "<init>")) (wi : (Cond.instantiable CC kk).before a0 Z = true) (hty : parseFieldDescriptor d = some ty) (hn : narrow ty v = v') (hf : fits ty v' = true) (g : n0 ≤ a) (hp : pc + 3 = pc')
    (kt : ∀ h', Wr h h' a (Jvm.RoadKit.slotOf Z O nm d) v' → Go l Z R y bs ml ret n0 Q h' k n pc' L St) : Go l Z R y bs ml ret n0 Q h k n pc L (v :: .ref a :: St) := by
  subst hp
  intro p e s m args below meth c T locs C X N eT
  obtain ⟨T', h', X', e', W', st⟩ := Jvm.RoadKit.putFN X C.1 C.2.2.2.2.2.2.2 C.2.2.2.1 w via eT F E (Ly.imp id fun q => ⟨q.1, q.2.1, C.2.2.2.2.1.trans q.2.2⟩) wi hty hn hf (g := mkF m pc L (v :: .ref a :: St)) rfl rfl (hb C.2.1 hd)
  exact (kt h' W' p e s m args below meth c T' _ C X' (Fr.snoc X' N g) e').thru st
theorem newO {CC : String} {index nn : Nat} (hd : decode bs pc = .ok (.new index, 3)) (w : (Cond.classLink y.cls index CC).before a0 Z = true) (wi : (Cond.instantiable CC nn).before a0 Z = true) (wz : (Cond.initialized CC).before a0 Z = true) (ek : k + 1 = k') (en : n + nn = n') (hc : k' ≤ R.cells) (hl : n' ≤ R.slots) (hp : pc + 3 = pc')
    (kt : ∀ h' a, a = h.size → Ext h h' → Exa Z h' a CC → (∀ {O nm d : String} {ty : FieldType}, Laid Z a0 CC O nm d → parseFieldDescriptor d = some ty → Fld Z h' a O nm d (defaultValue ty)) → Go l Z R y bs ml ret n0 Q h' k' n' pc' L (.ref a :: St)) : Go l Z R y bs ml ret n0 Q h k n pc L St := by
  subst hp ek en
  intro p e s m args below meth c T locs C X N eT
  obtain ⟨T', h', X', e', E, A, D, -, st⟩ := Jvm.RoadKit.newO X C.1 C.2.2.2.2.2.2.2 C.2.2.2.1 w wi wz eT (g := mkF m pc L St) rfl (hb C.2.1 hd) hc hl
  exact (kt h' _ rfl E A D p e s m args below meth c T' _ C X' N e').thru st
theorem newP {aty : ArrayType} {x : Int32} {cap : Nat} (hd : decode bs pc = .ok (.newarray aty, 2)) (w : (Cond.arrayClass (newarray.typeOf aty)).before a0 Z = true) (hn : ¬ x < 0) (hcap : x.toNatClampNeg ≤ cap) (hb' : cap * 8 ≤ 536870912) (ek : k + 1 = k') (en : n + cap = n') (hc : k' ≤ R.cells) (hl : n' ≤ R.slots) (hp : pc + 2 = pc')
    (kt : ∀ h' cA a, a = h.size → Ext h h' → Arr Z h' a (newA cA (newarray.typeOf aty) x) (newarray.typeOf aty) → Go l Z R y bs ml ret n0 Q h' k' n' pc' L (.ref a :: St)) : Go l Z R y bs ml ret n0 Q h k n pc L (.int x :: St) := by
  subst hp ek en
  intro p e s m args below meth c T locs C X N eT
  obtain ⟨T', h', cA, X', e', E, A, st⟩ := Jvm.RoadKit.newP X C.1 C.2.2.2.2.2.2.2 w eT (g := mkF m pc L (.int x :: St)) rfl (hb C.2.1 hd) rfl hn hcap hb' hc hl
  exact (kt h' cA _ rfl E A p e s m args below meth c T' _ C X' N e').thru st
theorem newR {CC : String} {index : Nat} {x : Int32} {cap : Nat} (hd : decode bs pc = .ok (.anewarray index, 3)) (w1 : (Cond.classLink y.cls index CC).before a0 Z = true) (w2 : (Cond.arrayOver (.object CC)).before a0 Z = true) (hn : ¬ x < 0) (hcap : x.toNatClampNeg ≤ cap) (hb' : cap * 8 ≤ 536870912) (ek : k + 1 = k') (en : n + cap = n') (hc : k' ≤ R.cells) (hl : n' ≤ R.slots) (hp : pc + 3 = pc')
    (kt : ∀ h' cA a, a = h.size → Ext h h' → Arr Z h' a (newA cA (.object CC) x) (.object CC) → Ovr Z cA CC → Go l Z R y bs ml ret n0 Q h' k' n' pc' L (.ref a :: St)) : Go l Z R y bs ml ret n0 Q h k n pc L (.int x :: St) := by
  subst hp ek en
  intro p e s m args below meth c T locs C X N eT
  obtain ⟨T', h', cA, X', e', E, A, O, st⟩ := Jvm.RoadKit.newR X C.1 C.2.2.2.2.2.2.2 C.2.2.2.1 w1 w2 eT (g := mkF m pc L (.int x :: St)) rfl (hb C.2.1 hd) rfl hn hcap hb' hc hl
  exact (kt h' cA _ rfl E A O p e s m args below meth c T' _ C X' N e').thru st
theorem stI {a : Addr} {cl : Cell} {j : Int32} {x : Int32} (hd : decode bs pc = .ok (.iastore, 1)) (A : Arr Z h a cl .int) (hj : ¬ (j < 0 ∨ cl.slots.size ≤ j.toNatClampNeg)) (g : n0 ≤ a) (hp : pc + 1 = pc') (kt : ∀ h', Wr h h' a j.toNatClampNeg (.int x) → Go l Z R y bs ml ret n0 Q h' k n pc' L St) : Go l Z R y bs ml ret n0 Q h k n pc L (.int x :: .int j :: .ref a :: St) := by
  subst hp
  intro p e s m args below meth c T locs C X N eT
  obtain ⟨T', h', X', e', W', st⟩ := Jvm.RoadKit.stI X C.1 C.2.2.2.2.2.2.2 eT A hj (g := mkF m pc L (.int x :: .int j :: .ref a :: St)) rfl rfl (hb C.2.1 hd)
  exact (kt h' W' p e s m args below meth c T' _ C X' (Fr.snoc X' N g) e').thru st
theorem stJ {a : Addr} {cl : Cell} {j : Int32} {x : Int64} (hd : decode bs pc = .ok (.lastore, 1)) (A : Arr Z h a cl .long) (hj : ¬ (j < 0 ∨ cl.slots.size ≤ j.toNatClampNeg)) (g : n0 ≤ a) (hp : pc + 1 = pc') (kt : ∀ h', Wr h h' a j.toNatClampNeg (.long x) → Go l Z R y bs ml ret n0 Q h' k n pc' L St) : Go l Z R y bs ml ret n0 Q h k n pc L (.long x :: .int j :: .ref a :: St) := by
  subst hp
  intro p e s m args below meth c T locs C X N eT
  obtain ⟨T', h', X', e', W', st⟩ := Jvm.RoadKit.stJ X C.1 C.2.2.2.2.2.2.2 eT A hj (g := mkF m pc L (.long x :: .int j :: .ref a :: St)) rfl rfl (hb C.2.1 hd)
  exact (kt h' W' p e s m args below meth c T' _ C X' (Fr.snoc X' N g) e').thru st
theorem stB {a : Addr} {cl : Cell} {j : Int32} {x : Int32} (hd : decode bs pc = .ok (.bastore, 1)) (A : Arr Z h a cl .byte) (hj : ¬ (j < 0 ∨ cl.slots.size ≤ j.toNatClampNeg)) (g : n0 ≤ a) (hp : pc + 1 = pc') (kt : ∀ h', Wr h h' a j.toNatClampNeg (.int (nar .byte x)) → Go l Z R y bs ml ret n0 Q h' k n pc' L St) : Go l Z R y bs ml ret n0 Q h k n pc L (.int x :: .int j :: .ref a :: St) := by
  subst hp
  intro p e s m args below meth c T locs C X N eT
  obtain ⟨T', h', X', e', W', st⟩ := Jvm.RoadKit.stB X C.1 C.2.2.2.2.2.2.2 eT A hj (g := mkF m pc L (.int x :: .int j :: .ref a :: St)) rfl rfl (hb C.2.1 hd)
  exact (kt h' W' p e s m args below meth c T' _ C X' (Fr.snoc X' N g) e').thru st
theorem stC {a : Addr} {cl : Cell} {j : Int32} {x : Int32} (hd : decode bs pc = .ok (.castore, 1)) (A : Arr Z h a cl .char) (hj : ¬ (j < 0 ∨ cl.slots.size ≤ j.toNatClampNeg)) (g : n0 ≤ a) (hp : pc + 1 = pc') (kt : ∀ h', Wr h h' a j.toNatClampNeg (.int (nar .char x)) → Go l Z R y bs ml ret n0 Q h' k n pc' L St) : Go l Z R y bs ml ret n0 Q h k n pc L (.int x :: .int j :: .ref a :: St) := by
  subst hp
  intro p e s m args below meth c T locs C X N eT
  obtain ⟨T', h', X', e', W', st⟩ := Jvm.RoadKit.stC X C.1 C.2.2.2.2.2.2.2 eT A hj (g := mkF m pc L (.int x :: .int j :: .ref a :: St)) rfl rfl (hb C.2.1 hd)
  exact (kt h' W' p e s m args below meth c T' _ C X' (Fr.snoc X' N g) e').thru st
theorem stZ {a : Addr} {cl : Cell} {j : Int32} {x : Int32} (hd : decode bs pc = .ok (.bastore, 1)) (A : Arr Z h a cl .boolean) (hj : ¬ (j < 0 ∨ cl.slots.size ≤ j.toNatClampNeg)) (g : n0 ≤ a) (hp : pc + 1 = pc') (kt : ∀ h', Wr h h' a j.toNatClampNeg (.int (nar .boolean x)) → Go l Z R y bs ml ret n0 Q h' k n pc' L St) : Go l Z R y bs ml ret n0 Q h k n pc L (.int x :: .int j :: .ref a :: St) := by
  subst hp
  intro p e s m args below meth c T locs C X N eT
  obtain ⟨T', h', X', e', W', st⟩ := Jvm.RoadKit.stZ X C.1 C.2.2.2.2.2.2.2 eT A hj (g := mkF m pc L (.int x :: .int j :: .ref a :: St)) rfl rfl (hb C.2.1 hd)
  exact (kt h' W' p e s m args below meth c T' _ C X' (Fr.snoc X' N g) e').thru st
theorem stR {a : Addr} {cl : Cell} {ty : FieldType} {j : Int32} {v : Value} (hd : decode bs pc = .ok (.aastore, 1)) (A : Arr Z h a cl ty) (hj : ¬ (j < 0 ∨ cl.slots.size ≤ j.toNatClampNeg)) (hty : ty.isReference = true) (F : Sto Z h a v) (g : n0 ≤ a) (hp : pc + 1 = pc') (kt : ∀ h', Wr h h' a j.toNatClampNeg v → Go l Z R y bs ml ret n0 Q h' k n pc' L St) : Go l Z R y bs ml ret n0 Q h k n pc L (v :: .int j :: .ref a :: St) := by
  subst hp
  intro p e s m args below meth c T locs C X N eT
  obtain ⟨T', h', X', e', W', st⟩ := Jvm.RoadKit.stR X C.1 C.2.2.2.2.2.2.2 eT A hj hty F (g := mkF m pc L (v :: .int j :: .ref a :: St)) rfl rfl (hb C.2.1 hd)
  exact (kt h' W' p e s m args below meth c T' _ C X' (Fr.snoc X' N g) e').thru st
theorem iaload {a : Addr} {cl : Cell} {j : Int32} {v : Value} (hd : decode bs pc = .ok (.iaload, 1)) (A : Arr Z h a cl .int) (hj : ¬ (j < 0 ∨ cl.slots.size ≤ j.toNatClampNeg)) (hv : cl.slots[j.toNatClampNeg]? = some v) (hp : pc + 1 = pc') (kt : Go l Z R y bs ml ret n0 Q h k n pc' L (v :: St)) : Go l Z R y bs ml ret n0 Q h k n pc L (.int j :: .ref a :: St) := by
  subst hp
  intro p e s m args below meth c T locs C X N eT
  exact (kt p e s m args below meth c T locs C X N eT).thru fun t q => X.iaload C.1 (by rw [eT]; exact A.1) (State.isArrayOf_alike C.2.2.2.2.2.2.2.alike A.2.1) A.2.2 hj hv (g := mkF m pc L (.int j :: .ref a :: St)) rfl rfl (hb C.2.1 hd) _ q
theorem laload {a : Addr} {cl : Cell} {j : Int32} {v : Value} (hd : decode bs pc = .ok (.laload, 1)) (A : Arr Z h a cl .long) (hj : ¬ (j < 0 ∨ cl.slots.size ≤ j.toNatClampNeg)) (hv : cl.slots[j.toNatClampNeg]? = some v) (hp : pc + 1 = pc') (kt : Go l Z R y bs ml ret n0 Q h k n pc' L (v :: St)) : Go l Z R y bs ml ret n0 Q h k n pc L (.int j :: .ref a :: St) := by
  subst hp
  intro p e s m args below meth c T locs C X N eT
  exact (kt p e s m args below meth c T locs C X N eT).thru fun t q => X.laload C.1 (by rw [eT]; exact A.1) (State.isArrayOf_alike C.2.2.2.2.2.2.2.alike A.2.1) A.2.2 hj hv (g := mkF m pc L (.int j :: .ref a :: St)) rfl rfl (hb C.2.1 hd) _ q
theorem caload {a : Addr} {cl : Cell} {j : Int32} {v : Value} (hd : decode bs pc = .ok (.caload, 1)) (A : Arr Z h a cl .char) (hj : ¬ (j < 0 ∨ cl.slots.size ≤ j.toNatClampNeg)) (hv : cl.slots[j.toNatClampNeg]? = some v) (hp : pc + 1 = pc') (kt : Go l Z R y bs ml ret n0 Q h k n pc' L (v :: St)) : Go l Z R y bs ml ret n0 Q h k n pc L (.int j :: .ref a :: St) := by
  subst hp
  intro p e s m args below meth c T locs C X N eT
  exact (kt p e s m args below meth c T locs C X N eT).thru fun t q => X.caload C.1 (by rw [eT]; exact A.1) (State.isArrayOf_alike C.2.2.2.2.2.2.2.alike A.2.1) A.2.2 hj hv (g := mkF m pc L (.int j :: .ref a :: St)) rfl rfl (hb C.2.1 hd) _ q
theorem baload {a : Addr} {cl : Cell} {j : Int32} {v : Value} (hd : decode bs pc = .ok (.baload, 1)) (A : Arr Z h a cl .byte) (hj : ¬ (j < 0 ∨ cl.slots.size ≤ j.toNatClampNeg)) (hv : cl.slots[j.toNatClampNeg]? = some v) (hp : pc + 1 = pc') (kt : Go l Z R y bs ml ret n0 Q h k n pc' L (v :: St)) : Go l Z R y bs ml ret n0 Q h k n pc L (.int j :: .ref a :: St) := by
  subst hp
  intro p e s m args below meth c T locs C X N eT
  exact (kt p e s m args below meth c T locs C X N eT).thru fun t q => X.baloadBytes C.1 (by rw [eT]; exact A.1) (State.isArrayOf_alike C.2.2.2.2.2.2.2.alike A.2.1) A.2.2 hj hv (g := mkF m pc L (.int j :: .ref a :: St)) rfl rfl (hb C.2.1 hd) _ q
theorem aaload {a : Addr} {cl : Cell} {ty : FieldType} {j : Int32} {v : Value} (hd : decode bs pc = .ok (.aaload, 1)) (A : Arr Z h a cl ty) (hty : ty.isReference = true) (hj : ¬ (j < 0 ∨ cl.slots.size ≤ j.toNatClampNeg)) (hv : cl.slots[j.toNatClampNeg]? = some v) (hp : pc + 1 = pc') (kt : Go l Z R y bs ml ret n0 Q h k n pc' L (v :: St)) : Go l Z R y bs ml ret n0 Q h k n pc L (.int j :: .ref a :: St) := by
  subst hp
  intro p e s m args below meth c T locs C X N eT
  exact (kt p e s m args below meth c T locs C X N eT).thru fun t q => X.aaload C.1 (by rw [eT]; exact A.1) (State.isArrayOf_alike C.2.2.2.2.2.2.2.alike A.2.1) hty A.2.2 hj hv (g := mkF m pc L (.int j :: .ref a :: St)) rfl rfl (hb C.2.1 hd) _ q
theorem alen {a : Addr} {cl : Cell} {ty : FieldType} {x : Int32} (hd : decode bs pc = .ok (.arraylength, 1)) (A : Arr Z h a cl ty) (hx : cl.slots.size.toInt32 = x) (hp : pc + 1 = pc') (kt : Go l Z R y bs ml ret n0 Q h k n pc' L (.int x :: St)) : Go l Z R y bs ml ret n0 Q h k n pc L (.ref a :: St) := by
  subst hp hx
  intro p e s m args below meth c T locs C X N eT
  exact (kt p e s m args below meth c T locs C X N eT).thru fun t q => X.arraylength C.1 (by rw [eT]; exact A.1) (State.isArrayOf_alike C.2.2.2.2.2.2.2.alike A.2.1) (g := mkF m pc L (.ref a :: St)) rfl rfl (hb C.2.1 hd) _ q
theorem multi22 {index : Nat} {ty : FieldType} {cn : String} (hd : decode bs pc = .ok (.multianewarray index 2, 4)) (w1 : (Cond.classLink y.cls index cn).before a0 Z = true) (hcn : "[" ++ (FieldType.array ty).toString = cn) (w2 : (Cond.arrayOver (.array ty)).before a0 Z = true) (w3 : (Cond.arrayClass ty).before a0 Z = true) (hcb : componentBytes ty ≤ 8) (hdf : fits ty (defaultValue ty) = true) (hdd : (defaultValue ty).isDefault = true) (ek : k + 3 = k') (en : n + 6 = n') (hc : k' ≤ R.cells) (hl : n' ≤ R.slots) (hp : pc + 4 = pc')
    (kt : ∀ h' cA cI a, a = h.size → h'.size = h.size + 3 → Ext h h' → Arv Z h' a cA (.array ty) (2 : Int32) [.ref (a + 1), .ref (a + 2)] .null → Arv Z h' (a + 1) cI ty (2 : Int32) [defaultValue ty, defaultValue ty] (defaultValue ty) → Arv Z h' (a + 2) cI ty (2 : Int32) [defaultValue ty, defaultValue ty] (defaultValue ty) → Z.vm.findClass (FieldType.array ty).toString = some cI → Go l Z R y bs ml ret n0 Q h' k' n' pc' L (.ref a :: St)) : Go l Z R y bs ml ret n0 Q h k n pc L (.int (2 : Int32) :: .int (2 : Int32) :: St) := by
  subst hp ek en hcn
  intro p e s m args below meth c T locs C X N eT
  have hZ := C.2.2.2.2.2.2.2
  have hc2 : (2 : Int32).toNatClampNeg = 2 := by decide
  obtain ⟨vm₁, cA, cI, hW, hfA, hfC, hO, hI, X', st⟩ := X.multianewarray2F C.1 C.2.2.2.1 (mvT hZ w1) ((Cond.arrayOver_setVmC (args := a0) (s := Z) hZ.alike (.array ty)).trans w2) (mvA hZ w3) (g := mkF m pc L (.int (2 : Int32) :: .int (2 : Int32) :: St)) rfl (hb C.2.1 hd) (n := (2 : Int32)) (k := (2 : Int32)) (rest := St) rfl (by decide) (by decide) (by decide) (by rw [hc2]; omega) (by decide) hdf hdd (by rw [hc2]; omega) (by rw [hc2]; omega)
  rw [hc2] at X' st
  subst eT
  obtain ⟨f1, f2, -, -⟩ := Jvm.Free.Multi.fill_facts (T.setVm vm₁) cA cI 2 2 (defaultValue ty) 2
  obtain ⟨o1, o2, o3⟩ := Jvm.Free.Multi.outerC_facts cA 2 (T.setVm vm₁).heap.size 2
  have hsz : (T.setVm vm₁).heap.size = T.heap.size := rfl
  have al : s.vm.Alike Z.vm := hZ.alike.symm
  have EE : Ext T.heap (Jvm.Free.Multi.fill (T.setVm vm₁) cA cI 2 2 (defaultValue ty) 2).heap := ext_of fun a q => Jvm.Free.Multi.fill_old (T.setVm vm₁) cA cI 2 2 (defaultValue ty) q 2
  have inn : ∀ j, j < 2 → Arv Z (Jvm.Free.Multi.fill (T.setVm vm₁) cA cI 2 2 (defaultValue ty) 2).heap (T.heap.size + 1 + j) cI ty (2 : Int32) [defaultValue ty, defaultValue ty] (defaultValue ty) := fun j hj => by
    have hget := Jvm.Free.Multi.fill_inner (T.setVm vm₁) cA cI 2 2 (defaultValue ty) 2 j hj
    refine ⟨_, ⟨hget, State.isArrayOf_alike al (hI 2 (defaultValue ty)).1, (hI 2 (defaultValue ty)).2⟩, rfl, by simp [Jvm.Free.Multi.innerC, hc2], by decide, fun i hi => ?_, fun i hi => ?_⟩
    · simp only [Jvm.Free.Multi.innerC, Array.size_replicate] at hi ⊢
      match i, hi with
      | 0, _ => rfl
      | 1, _ => rfl
    · simp only [Jvm.Free.Multi.innerC, Array.size_replicate] at hi
      match i, hi with
      | 0, _ => exact hdf
      | 1, _ => exact hdf
  have hZc : Z.vm.findClass (FieldType.array ty).toString = some cI := by rw [← hZ.alike.findClass]; exact hfC
  refine (kt _ cA cI T.heap.size rfl f1 EE ?_ (inn 0 (by decide)) (inn 1 (by decide)) hZc p e s m args below meth c _ _ C X' N rfl).thru st
  refine ⟨_, ⟨f2, State.isArrayOf_alike al (hO 2 _ 2).1, (hO 2 _ 2).2⟩, o1, by rw [o3, hc2], by decide, fun i hi => ?_, fun i hi => ?_⟩
  · rw [o3] at hi
    rw [Jvm.Free.Multi.outerC_slot cA 2 _ 2 i hi, if_pos hi]
    match i, hi with
    | 0, _ => rfl
    | 1, _ => rfl
  · rw [o3] at hi
    match i, hi with
    | 0, _ => rfl
    | 1, _ => rfl
theorem castY {KK : String} {index : Nat} {a : Addr} (hd : decode bs pc = .ok (.checkcast index, 3)) (w : (Cond.classLink y.cls index KK).before a0 Z = true) (F : Ins Z h a KK true) (hp : pc + 3 = pc') (kt : Go l Z R y bs ml ret n0 Q h k n pc' L (.ref a :: St)) : Go l Z R y bs ml ret n0 Q h k n pc L (.ref a :: St) := by
  subst hp
  intro p e s m args below meth c T locs C X N eT
  obtain ⟨T', X', e', st⟩ := Jvm.RoadKit.castY X C.1 C.2.2.2.2.2.2.2 C.2.2.2.1 w eT F (g := mkF m pc L (.ref a :: St)) rfl rfl (hb C.2.1 hd)
  exact (kt p e s m args below meth c T' locs C X' N e').thru st
theorem instY {KK : String} {index : Nat} {a : Addr} (hd : decode bs pc = .ok (.instanceof index, 3)) (w : (Cond.classLink y.cls index KK).before a0 Z = true) (F : Ins Z h a KK true) (hp : pc + 3 = pc') (kt : Go l Z R y bs ml ret n0 Q h k n pc' L (.int 1 :: St)) : Go l Z R y bs ml ret n0 Q h k n pc L (.ref a :: St) := by
  subst hp
  intro p e s m args below meth c T locs C X N eT
  obtain ⟨T', X', e', st⟩ := Jvm.RoadKit.instY X C.1 C.2.2.2.2.2.2.2 C.2.2.2.1 w eT F (g := mkF m pc L (.ref a :: St)) rfl rfl (hb C.2.1 hd)
  exact (kt p e s m args below meth c T' locs C X' N e').thru st
theorem instNo {KK CC : String} {index : Nat} {a : Addr} (hd : decode bs pc = .ok (.instanceof index, 3)) (w : (Cond.classLink y.cls index KK).before a0 Z = true) (E : Exa Z h a CC) (F : ∃ c t, Z.vm.findClass CC = some c ∧ Z.vm.findClass KK = some t ∧ Z.vm.assignable c t = false) (hp : pc + 3 = pc') (kt : Go l Z R y bs ml ret n0 Q h k n pc' L (.int 0 :: St)) : Go l Z R y bs ml ret n0 Q h k n pc L (.ref a :: St) := by
  subst hp
  intro p e s m args below meth c T locs C X N eT
  obtain ⟨T', X', e', st⟩ := Jvm.RoadKit.instNo X C.1 C.2.2.2.2.2.2.2 C.2.2.2.1 w eT E F (g := mkF m pc L (.ref a :: St)) rfl rfl (hb C.2.1 hd)
  exact (kt p e s m args below meth c T' locs C X' N e').thru st
theorem instNull {index : Nat} (hd : decode bs pc = .ok (.instanceof index, 3)) (hp : pc + 3 = pc') (kt : Go l Z R y bs ml ret n0 Q h k n pc' L (.int 0 :: St)) : Go l Z R y bs ml ret n0 Q h k n pc L (.null :: St) := by
  subst hp
  intro p e s m args below meth c T locs C X N eT
  exact (kt p e s m args below meth c T locs C X N eT).thru (X.instanceofNull C.1 (g := mkF m pc L (.null :: St)) rfl rfl (hb C.2.1 hd))
theorem castNull {index : Nat} (hd : decode bs pc = .ok (.checkcast index, 3)) (hp : pc + 3 = pc') (kt : Go l Z R y bs ml ret n0 Q h k n pc' L (.null :: St)) : Go l Z R y bs ml ret n0 Q h k n pc L (.null :: St) := by
  subst hp
  intro p e s m args below meth c T locs C X N eT
  exact (kt p e s m args below meth c T locs C X N eT).thru (X.checkcastNull C.1 (g := mkF m pc L (.null :: St)) rfl rfl (hb C.2.1 hd))
theorem initO {index : Nat} {a : Addr} {W : Nat} (hd : decode bs pc = .ok (.invokespecial index, 3)) (w1 : (Cond.methodLink y.cls index Lib.objectInit).before a0 Z = true) (w2 : (Cond.instanceMethod Lib.objectInit).before a0 Z = true) (w3 : (Cond.code Lib.objectInit ⟨#[0xb1]⟩ 1 none).before a0 Z = true) (hsz : L.size = ml) (hf : 1 ≤ R.frames) (hW : (St.map fun v => v.category).sum ≤ W) (hl : W + 12 ≤ R.locals) (hp : pc + 3 = pc') (kt : Go l Z R y bs ml ret n0 Q h k n pc' L St) : Go l Z R y bs ml ret n0 Q h k n pc L (.ref a :: St) := by
  subst hp
  intro p e s m args below meth c T locs C X N eT
  obtain ⟨T', X', e', st⟩ := Jvm.RoadKit.initO X C.1 C.2.2.2.2.2.2.2 C.2.2.2.1 w1 w2 w3 eT (g := mkF m pc L (.ref a :: St)) rfl (by rw [C.2.2.1]; exact hsz) rfl (hb C.2.1 hd) hf (W := W) (by show 2 * 0 + _ ≤ _; omega) hl
  exact (kt p e s m args below meth c T' locs C X' N e').thru st
theorem callS {z : MethodName} {bz : ByteArray} {mz : Nat} {rz : Option FieldType} {rm : Room} {as' : Array Value} {Q' : Option Value → Heap → Prop} {W : Nat} {argsL rest : List Value} {ps : List FieldType} {rt : Option FieldType} {index : Nat} (hd : decode bs pc = .ok (.invokestatic index, 3)) (w1 : (Cond.methodLink y.cls index z).before a0 Z = true) (w2 : (Cond.static z).before a0 Z = true) (w3 : (Cond.initialized z.cls).before a0 Z = true) (w4 : (Cond.code z bz mz rz).before a0 Z = true) (hy : z.cls ≠ "java/lang/invoke/MethodHandle" ∧ z.cls ≠ "java/lang/invoke/VarHandle")
    (con : Con l Z rm z bz mz rz n0 as' h Q') (hf : rm.frames + 1 ≤ R.frames) (hl : W + (mz + 11) + rm.locals ≤ R.locals) (ek : k + rm.cells = k') (en : n + rm.slots = n') (hc : k' ≤ R.cells) (hn : n' ≤ R.slots) (hsz : L.size = ml) (pd : parseMethodDescriptor z.desc = some ⟨ps, rt⟩) (hlen : argsL.length = ps.length) (hst : St = argsL.reverse ++ rest) (has : as' = argsL.toArray) (hW : (rest.map fun v => v.category).sum ≤ W) (hp : pc + 3 = pc')
    (kt : ∀ h' v, Q' v h' → Go l Z R y bs ml ret n0 Q h' k' n' pc' L (v.toList ++ rest)) : Go l Z R y bs ml ret n0 Q h k n pc L St := by
  subst hp has ek en
  intro p e s m args below meth c T locs C X N eT
  have hZ := C.2.2.2.2.2.2.2
  obtain ⟨v, _, ⟨T', Lp, kp, np⟩, -, X', ⟨Lc, ⟨hQ, N'⟩, e1, e2, e3⟩, st⟩ := Jvm.LawKit.callS X C.1 (y := z) C.2.2.2.1 (mvT hZ w1) (mvT hZ w2) (mvT hZ w3) (mvT hZ w4) hy (backOf (W := W) (Q := fun v h' L => Q' v h' ∧ Fr n0 L) (con []) hZ w4 w3 hf hl) (g := mkF m pc L St) rfl (by rw [C.2.2.1]; exact hsz) (argsL := argsL) (rest := rest) (lenOf pd hlen) hst (by show 2 * 0 + _ ≤ _; omega) (hb C.2.1 hd) (fun _ _ => ⟨rfl, eT, hc, hn⟩)
  dsimp only [Pt.U, Pt.locs, Pt.cells, Pt.slots] at X' e1 e2 e3 st hQ
  subst e1 e2 e3
  exact (kt T'.heap v hQ p e s m args below meth c T' _ C X' (Fr.app N N') rfl).thru st
theorem callI {z : MethodName} {bz : ByteArray} {mz : Nat} {rm : Room} {as' : Array Value} {Q' : Option Value → Heap → Prop} {W : Nat} {argsL rest : List Value} {ps : List FieldType} {rt : Option FieldType} {index : Nat} {a : Addr} (hd : decode bs pc = .ok (.invokespecial index, 3)) (hi : z.name = "<init>") (w1 : (Cond.methodLink y.cls index z).before a0 Z = true) (w2 : (Cond.instanceMethod z).before a0 Z = true) (w3 : (Cond.initialized z.cls).before a0 Z = true) (w4 : (Cond.code z bz mz none).before a0 Z = true) (hy : z.cls ≠ "java/lang/invoke/MethodHandle" ∧ z.cls ≠ "java/lang/invoke/VarHandle")
    (con : Con l Z rm z bz mz none n0 as' h Q') (hf : rm.frames + 1 ≤ R.frames) (hl : W + (mz + 11) + rm.locals ≤ R.locals) (ek : k + rm.cells = k') (en : n + rm.slots = n') (hc : k' ≤ R.cells) (hn : n' ≤ R.slots) (hsz : L.size = ml) (pd : parseMethodDescriptor z.desc = some ⟨ps, rt⟩) (hlen : argsL.length = ps.length) (hst : St = argsL.reverse ++ .ref a :: rest) (has : as' = (.ref a :: argsL).toArray) (hW : (rest.map fun v => v.category).sum ≤ W) (hp : pc + 3 = pc')
    (kt : ∀ h' v, Q' v h' → Go l Z R y bs ml ret n0 Q h' k' n' pc' L (v.toList ++ rest)) : Go l Z R y bs ml ret n0 Q h k n pc L St := by
  subst hp has ek en
  intro p e s m args below meth c T locs C X N eT
  have hZ := C.2.2.2.2.2.2.2
  obtain ⟨v, _, ⟨T', Lp, kp, np⟩, -, X', ⟨Lc, ⟨hQ, N'⟩, e1, e2, e3⟩, st⟩ := X.specialBack C.1 (y := z) hi C.2.2.2.1 (mvT hZ w1) (mvT hZ w2) (mvT hZ w4) hy (backOf (W := W) (Q := fun v h' L => Q' v h' ∧ Fr n0 L) (con []) hZ w4 w3 hf hl) (g := mkF m pc L St) rfl (by rw [C.2.2.1]; exact hsz) (Steps.refl _) (a := a) (argsL := argsL) (rest := rest) (lenOf pd hlen) hst (by show 2 * 0 + _ ≤ _; omega) (hb C.2.1 hd) (fun _ _ => ⟨rfl, eT, hc, hn⟩)
  dsimp only [Pt.U, Pt.locs, Pt.cells, Pt.slots] at X' e1 e2 e3 st hQ
  subst e1 e2 e3
  exact (kt T'.heap v hQ p e s m args below meth c T' _ C X' (Fr.app N N') rfl).thru fun t q => st.trans q
theorem callV {z : MethodName} {bz : ByteArray} {mz : Nat} {rz : Option FieldType} {rm : Room} {as' : Array Value} {Q' : Option Value → Heap → Prop} {W : Nat} {argsL rest : List Value} {ps : List FieldType} {rt : Option FieldType} {index : Nat} {CC : String} {a : Addr} (hd : decode bs pc = .ok (.invokevirtual index, 3)) (w1 : (Cond.methodLink y.cls index z).before a0 Z = true) (w2 : (Cond.declares z).before a0 Z = true) (ws : (Cond.selects CC z z).before a0 Z = true) (wi : (Cond.instanceMethod z).before a0 Z = true) (w3 : (Cond.initialized z.cls).before a0 Z = true) (w4 : (Cond.code z bz mz rz).before a0 Z = true) (hy : z.cls ≠ "java/lang/invoke/MethodHandle" ∧ z.cls ≠ "java/lang/invoke/VarHandle") (E : Exa Z h a CC)
    (con : Con l Z rm z bz mz rz n0 as' h Q') (hf : rm.frames + 1 ≤ R.frames) (hl : W + (mz + 11) + rm.locals ≤ R.locals) (ek : k + rm.cells = k') (en : n + rm.slots = n') (hc : k' ≤ R.cells) (hn : n' ≤ R.slots) (hsz : L.size = ml) (pd : parseMethodDescriptor z.desc = some ⟨ps, rt⟩) (hlen : argsL.length = ps.length) (hst : St = argsL.reverse ++ .ref a :: rest) (has : as' = (.ref a :: argsL).toArray) (hW : (rest.map fun v => v.category).sum ≤ W) (hp : pc + 3 = pc')
    (kt : ∀ h' v, Q' v h' → Go l Z R y bs ml ret n0 Q h' k' n' pc' L (v.toList ++ rest)) : Go l Z R y bs ml ret n0 Q h k n pc L St := by
  subst hp has ek en
  intro p e s m args below meth c T locs C X N eT
  have hZ := C.2.2.2.2.2.2.2
  obtain ⟨cq, kq, qa, qb, qc⟩ := isOf hZ eT E
  obtain ⟨v, _, ⟨T', Lp, kp, np⟩, -, X', ⟨Lc, ⟨hQ, N'⟩, e1, e2, e3⟩, st⟩ := X.virtualBack C.1 (y := z) (z := z) C.2.2.2.1 (mvT hZ w1) (mvT hZ w2) (notFace_of_selects (args := #[]) (mvT hZ ws)) (mvT hZ ws) (mvT hZ wi) hy (backOf (W := W) (Q := fun v h' L => Q' v h' ∧ Fr n0 L) (con []) hZ w4 w3 hf hl) qa qc (g := mkF m pc L St) rfl (by rw [C.2.2.1]; exact hsz) (Steps.refl _) (argsL := argsL) (rest := rest) (lenOf pd hlen) hst (by show 2 * 0 + _ ≤ _; omega) (hb C.2.1 hd) (fun _ _ => ⟨rfl, eT, hc, hn⟩)
  dsimp only [Pt.U, Pt.locs, Pt.cells, Pt.slots] at X' e1 e2 e3 st hQ
  subst e1 e2 e3
  exact (kt T'.heap v hQ p e s m args below meth c T' _ C X' (Fr.app N N') rfl).thru fun t q => st.trans q
theorem callVF {z : MethodName} {bz : ByteArray} {mz : Nat} {rz : Option FieldType} {rm : Room} {as' : Array Value} {Q' : Option Value → Heap → Prop} {W : Nat} {argsL rest : List Value} {ps : List FieldType} {rt : Option FieldType} {index cnt : Nat} {x' : MethodName} {CC : String} {a : Addr} (hd : decode bs pc = .ok (.invokeinterface index cnt, 5)) (w1 : (Cond.methodLink y.cls index x').before a0 Z = true) (w2 : (Cond.declares x').before a0 Z = true) (wf : (Cond.interfaceMethod x'.cls x'.cls x'.name x'.desc).before a0 Z = true) (ws : (Cond.selects CC x' z).before a0 Z = true) (wi : (Cond.instanceMethod z).before a0 Z = true) (wp : (Cond.publicMethod z).before a0 Z = true) (wu : (Cond.unhidden CC x'.name x'.desc).before a0 Z = true) (wc : (Cond.castable CC x'.cls).before a0 Z = true) (w3 : (Cond.initialized z.cls).before a0 Z = true) (w4 : (Cond.code z bz mz rz).before a0 Z = true) (hy : x'.cls ≠ "java/lang/invoke/MethodHandle" ∧ x'.cls ≠ "java/lang/invoke/VarHandle") (E : Exa Z h a CC)
    (con : Con l Z rm z bz mz rz n0 as' h Q') (hf : rm.frames + 1 ≤ R.frames) (hl : W + (mz + 11) + rm.locals ≤ R.locals) (ek : k + rm.cells = k') (en : n + rm.slots = n') (hc : k' ≤ R.cells) (hn : n' ≤ R.slots) (hsz : L.size = ml) (pd : parseMethodDescriptor x'.desc = some ⟨ps, rt⟩) (hlen : argsL.length = ps.length) (hst : St = argsL.reverse ++ .ref a :: rest) (has : as' = (.ref a :: argsL).toArray) (hW : (rest.map fun v => v.category).sum ≤ W) (hp : pc + 5 = pc')
    (kt : ∀ h' v, Q' v h' → Go l Z R y bs ml ret n0 Q h' k' n' pc' L (v.toList ++ rest)) : Go l Z R y bs ml ret n0 Q h k n pc L St := by
  subst hp has ek en
  intro p e s m args below meth c T locs C X N eT
  have hZ := C.2.2.2.2.2.2.2
  obtain ⟨cq, kq, qa, qb, qc⟩ := isOf hZ eT E
  obtain ⟨v, _, ⟨T', Lp, kp, np⟩, -, X', ⟨Lc, ⟨hQ, N'⟩, e1, e2, e3⟩, st⟩ := X.interfaceBack C.1 (xi := x') (y := z) C.2.2.2.1 (mvT hZ w1) (mvT hZ w2) (mvT hZ wf (by have g1 := hy.1; have g2 := hy.2; simp [Cond.onTables, Cond.keepsFace, Cond.keeps, Cond.steady, Cond.faceAtom, g1, g2])) (mvT hZ ws) (mvT hZ wi) (mvT hZ wp) (mvT hZ wu) (mvT hZ wc) hy (backOf (W := W) (Q := fun v h' L => Q' v h' ∧ Fr n0 L) (con []) hZ w4 w3 hf hl) qa qb qc (g := mkF m pc L St) rfl (by rw [C.2.2.1]; exact hsz) (Steps.refl _) (argsL := argsL) (rest := rest) (lenOf pd hlen) hst (by show 2 * 0 + _ ≤ _; omega) (hb C.2.1 hd) (fun _ _ => ⟨rfl, eT, hc, hn⟩)
  dsimp only [Pt.U, Pt.locs, Pt.cells, Pt.slots] at X' e1 e2 e3 st hQ
  subst e1 e2 e3
  exact (kt T'.heap v hQ p e s m args below meth c T' _ C X' (Fr.app N N') rfl).thru fun t q => st.trans q
theorem callP {z : MethodName} {bz : ByteArray} {mz : Nat} {rz : Option FieldType} {rm : Room} {as' : Array Value} {Q' : Option Value → Heap → Prop} {W : Nat} {argsL rest : List Value} {ps : List FieldType} {rt : Option FieldType} {index : Nat} {a : Addr} {CC : String} (hd : decode bs pc = .ok (.invokevirtual index, 3)) (w1 : (Cond.methodLink y.cls index z).before a0 Z = true) (wi : (Cond.instanceMethod z).before a0 Z = true) {nn : Nat} (win : (Cond.instantiable z.cls nn).before a0 Z = true) (wp : (Cond.privateMethod z).before a0 Z = true) (w3 : (Cond.initialized z.cls).before a0 Z = true) (w4 : (Cond.code z bz mz rz).before a0 Z = true) (hy : z.cls ≠ "java/lang/invoke/MethodHandle" ∧ z.cls ≠ "java/lang/invoke/VarHandle") (E : Exa Z h a CC)
    (con : Con l Z rm z bz mz rz n0 as' h Q') (hf : rm.frames + 1 ≤ R.frames) (hl : W + (mz + 11) + rm.locals ≤ R.locals) (ek : k + rm.cells = k') (en : n + rm.slots = n') (hc : k' ≤ R.cells) (hn : n' ≤ R.slots) (hsz : L.size = ml) (pd : parseMethodDescriptor z.desc = some ⟨ps, rt⟩) (hlen : argsL.length = ps.length) (hst : St = argsL.reverse ++ .ref a :: rest) (has : as' = (.ref a :: argsL).toArray) (hW : (rest.map fun v => v.category).sum ≤ W) (hp : pc + 3 = pc')
    (kt : ∀ h' v, Q' v h' → Go l Z R y bs ml ret n0 Q h' k' n' pc' L (v.toList ++ rest)) : Go l Z R y bs ml ret n0 Q h k n pc L St := by
  subst hp has ek en
  intro p e s m args below meth c T locs C X N eT
  have hZ := C.2.2.2.2.2.2.2
  have ws : (Cond.selects z.cls z z).before a0 Z = true := by
    obtain ⟨t, kt, g1, g2, g3, g4, -, -⟩ := Cond.instantiable_spec win
    exact selects_self_of_private g1 g2 (Bool.or_eq_false_iff.mp g4).1 (Cond.privateMethod_at wp) wi hy
  obtain ⟨cq, qa, qb⟩ := E.cell
  obtain ⟨v, _, ⟨T', Lp, kp, np⟩, -, X', ⟨Lc, ⟨hQ, N'⟩, e1, e2, e3⟩, st⟩ := X.privateBack C.1 (y := z) C.2.2.2.1 (mvT hZ w1) (mvT hZ wi) (mvT hZ ws) (Cond.privateMethod_at (mvP hZ wp (args := #[]))) (mvT hZ w4) hy (backOf (W := W) (Q := fun v h' L => Q' v h' ∧ Fr n0 L) (con []) hZ w4 w3 hf hl) (g := mkF m pc L St) rfl (by rw [C.2.2.1]; exact hsz) (Steps.refl _) (a := a) (by rw [eT]; exact qa) qb (argsL := argsL) (rest := rest) (lenOf pd hlen) hst (by show 2 * 0 + _ ≤ _; omega) (hb C.2.1 hd) (fun _ _ => ⟨rfl, eT, hc, hn⟩)
  dsimp only [Pt.U, Pt.locs, Pt.cells, Pt.slots] at X' e1 e2 e3 st hQ
  subst e1 e2 e3
  exact (kt T'.heap v hQ p e s m args below meth c T' _ C X' (Fr.app N N') rfl).thru fun t q => st.trans q
theorem callS0 {z : MethodName} {bz : ByteArray} {mz : Nat} {rz : Option FieldType} {rm : Room} {as' : Array Value} {r : Option Value} {St' : List Value} {W : Nat} {argsL rest : List Value} {ps : List FieldType} {rt : Option FieldType} {index : Nat} (hd : decode bs pc = .ok (.invokestatic index, 3)) (w1 : (Cond.methodLink y.cls index z).before a0 Z = true) (w2 : (Cond.static z).before a0 Z = true) (w3 : (Cond.initialized z.cls).before a0 Z = true) (w4 : (Cond.code z bz mz rz).before a0 Z = true) (hy : z.cls ≠ "java/lang/invoke/MethodHandle" ∧ z.cls ≠ "java/lang/invoke/VarHandle")
    (con : Con l Z rm z bz mz rz n0 as' h (Ret r h)) (hf : rm.frames + 1 ≤ R.frames) (hl : W + (mz + 11) + rm.locals ≤ R.locals) (ek : k + rm.cells = k') (en : n + rm.slots = n') (hc : k' ≤ R.cells) (hn : n' ≤ R.slots) (hsz : L.size = ml) (pd : parseMethodDescriptor z.desc = some ⟨ps, rt⟩) (hlen : argsL.length = ps.length) (hst : St = argsL.reverse ++ rest) (has : as' = argsL.toArray) (hW : (rest.map fun v => v.category).sum ≤ W) (hs : r.toList ++ rest = St') (hp : pc + 3 = pc')
    (kt : Go l Z R y bs ml ret n0 Q h k' n' pc' L St') : Go l Z R y bs ml ret n0 Q h k n pc L St := by
  subst hs
  refine callS hd w1 w2 w3 w4 hy con hf hl ek en hc hn hsz pd hlen hst has hW hp ?_
  rintro h' v ⟨rfl, rfl⟩
  exact kt
theorem callI0 {z : MethodName} {bz : ByteArray} {mz : Nat} {rm : Room} {as' : Array Value} {r : Option Value} {St' : List Value} {W : Nat} {argsL rest : List Value} {ps : List FieldType} {rt : Option FieldType} {index : Nat} {a : Addr} (hd : decode bs pc = .ok (.invokespecial index, 3)) (hi : z.name = "<init>") (w1 : (Cond.methodLink y.cls index z).before a0 Z = true) (w2 : (Cond.instanceMethod z).before a0 Z = true) (w3 : (Cond.initialized z.cls).before a0 Z = true) (w4 : (Cond.code z bz mz none).before a0 Z = true) (hy : z.cls ≠ "java/lang/invoke/MethodHandle" ∧ z.cls ≠ "java/lang/invoke/VarHandle")
    (con : Con l Z rm z bz mz none n0 as' h (Ret r h)) (hf : rm.frames + 1 ≤ R.frames) (hl : W + (mz + 11) + rm.locals ≤ R.locals) (ek : k + rm.cells = k') (en : n + rm.slots = n') (hc : k' ≤ R.cells) (hn : n' ≤ R.slots) (hsz : L.size = ml) (pd : parseMethodDescriptor z.desc = some ⟨ps, rt⟩) (hlen : argsL.length = ps.length) (hst : St = argsL.reverse ++ .ref a :: rest) (has : as' = (.ref a :: argsL).toArray) (hW : (rest.map fun v => v.category).sum ≤ W) (hs : r.toList ++ rest = St') (hp : pc + 3 = pc')
    (kt : Go l Z R y bs ml ret n0 Q h k' n' pc' L St') : Go l Z R y bs ml ret n0 Q h k n pc L St := by
  subst hs
  refine callI hd hi w1 w2 w3 w4 hy con hf hl ek en hc hn hsz pd hlen hst has hW hp ?_
  rintro h' v ⟨rfl, rfl⟩
  exact kt
theorem callV0 {z : MethodName} {bz : ByteArray} {mz : Nat} {rz : Option FieldType} {rm : Room} {as' : Array Value} {r : Option Value} {St' : List Value} {W : Nat} {argsL rest : List Value} {ps : List FieldType} {rt : Option FieldType} {index : Nat} {CC : String} {a : Addr} (hd : decode bs pc = .ok (.invokevirtual index, 3)) (w1 : (Cond.methodLink y.cls index z).before a0 Z = true) (w2 : (Cond.declares z).before a0 Z = true) (ws : (Cond.selects CC z z).before a0 Z = true) (wi : (Cond.instanceMethod z).before a0 Z = true) (w3 : (Cond.initialized z.cls).before a0 Z = true) (w4 : (Cond.code z bz mz rz).before a0 Z = true) (hy : z.cls ≠ "java/lang/invoke/MethodHandle" ∧ z.cls ≠ "java/lang/invoke/VarHandle") (E : Exa Z h a CC)
    (con : Con l Z rm z bz mz rz n0 as' h (Ret r h)) (hf : rm.frames + 1 ≤ R.frames) (hl : W + (mz + 11) + rm.locals ≤ R.locals) (ek : k + rm.cells = k') (en : n + rm.slots = n') (hc : k' ≤ R.cells) (hn : n' ≤ R.slots) (hsz : L.size = ml) (pd : parseMethodDescriptor z.desc = some ⟨ps, rt⟩) (hlen : argsL.length = ps.length) (hst : St = argsL.reverse ++ .ref a :: rest) (has : as' = (.ref a :: argsL).toArray) (hW : (rest.map fun v => v.category).sum ≤ W) (hs : r.toList ++ rest = St') (hp : pc + 3 = pc')
    (kt : Go l Z R y bs ml ret n0 Q h k' n' pc' L St') : Go l Z R y bs ml ret n0 Q h k n pc L St := by
  subst hs
  refine callV hd w1 w2 ws wi w3 w4 hy E con hf hl ek en hc hn hsz pd hlen hst has hW hp ?_
  rintro h' v ⟨rfl, rfl⟩
  exact kt
theorem callVF0 {z : MethodName} {bz : ByteArray} {mz : Nat} {rz : Option FieldType} {rm : Room} {as' : Array Value} {r : Option Value} {St' : List Value} {W : Nat} {argsL rest : List Value} {ps : List FieldType} {rt : Option FieldType} {index cnt : Nat} {x' : MethodName} {CC : String} {a : Addr} (hd : decode bs pc = .ok (.invokeinterface index cnt, 5)) (w1 : (Cond.methodLink y.cls index x').before a0 Z = true) (w2 : (Cond.declares x').before a0 Z = true) (wf : (Cond.interfaceMethod x'.cls x'.cls x'.name x'.desc).before a0 Z = true) (ws : (Cond.selects CC x' z).before a0 Z = true) (wi : (Cond.instanceMethod z).before a0 Z = true) (wp : (Cond.publicMethod z).before a0 Z = true) (wu : (Cond.unhidden CC x'.name x'.desc).before a0 Z = true) (wc : (Cond.castable CC x'.cls).before a0 Z = true) (w3 : (Cond.initialized z.cls).before a0 Z = true) (w4 : (Cond.code z bz mz rz).before a0 Z = true) (hy : x'.cls ≠ "java/lang/invoke/MethodHandle" ∧ x'.cls ≠ "java/lang/invoke/VarHandle") (E : Exa Z h a CC)
    (con : Con l Z rm z bz mz rz n0 as' h (Ret r h)) (hf : rm.frames + 1 ≤ R.frames) (hl : W + (mz + 11) + rm.locals ≤ R.locals) (ek : k + rm.cells = k') (en : n + rm.slots = n') (hc : k' ≤ R.cells) (hn : n' ≤ R.slots) (hsz : L.size = ml) (pd : parseMethodDescriptor x'.desc = some ⟨ps, rt⟩) (hlen : argsL.length = ps.length) (hst : St = argsL.reverse ++ .ref a :: rest) (has : as' = (.ref a :: argsL).toArray) (hW : (rest.map fun v => v.category).sum ≤ W) (hs : r.toList ++ rest = St') (hp : pc + 5 = pc')
    (kt : Go l Z R y bs ml ret n0 Q h k' n' pc' L St') : Go l Z R y bs ml ret n0 Q h k n pc L St := by
  subst hs
  refine callVF hd w1 w2 wf ws wi wp wu wc w3 w4 hy E con hf hl ek en hc hn hsz pd hlen hst has hW hp ?_
  rintro h' v ⟨rfl, rfl⟩
  exact kt
end Laws
end Jvm.OwnW
namespace Jvm.Pilot.@@N@@
open Jvm Jvm.ClassFile Sem Op Lib Jvm.Free Jvm.Stand Jvm.LawKit Jvm.RoadKit Bundle Jvm.OwnW Jvm.Pilot.@@N@@.Jvm.D
theorem pd_285bCI5bBII29I : parseMethodDescriptor "([CI[BII)I" = some ⟨[(.array .char), .int, (.array .byte), .int, .int], some .int⟩ := by decide +kernel
theorem pd_285bCII295bB : parseMethodDescriptor "([CII)[B" = some ⟨[(.array .char), .int, .int], some (.array .byte)⟩ := by decide +kernel
theorem pd_285bBI29B : parseMethodDescriptor "([BI)B" = some ⟨[(.array .byte), .int], some .byte⟩ := by decide +kernel
theorem pd_285bCIILjava2flang2fVoid3b29V : parseMethodDescriptor "([CIILjava/lang/Void;)V" = some ⟨[(.array .char), .int, .int, (.object "java/lang/Void")], none⟩ := by decide +kernel
theorem pd_28C29Z : parseMethodDescriptor "(C)Z" = some ⟨[.char], some .boolean⟩ := by decide +kernel
theorem pd_28C295bB : parseMethodDescriptor "(C)[B" = some ⟨[.char], some (.array .byte)⟩ := by decide +kernel
theorem pd_285bBB29V : parseMethodDescriptor "([BB)V" = some ⟨[(.array .byte), .byte], none⟩ := by decide +kernel
theorem pd_28Ljava2flang2fString3bLjava2flang2fString3bLjava2flang2fString3bLcom2fexample2fvestline2fvestline2fcli2fOption24Presence3b29V : parseMethodDescriptor "(Ljava/lang/String;Ljava/lang/String;Ljava/lang/String;Lcom/example/vestline/vestline/cli/Option$Presence;)V" = some ⟨[(.object "java/lang/String"), (.object "java/lang/String"), (.object "java/lang/String"), (.object "com/example/vestline/vestline/cli/Option$Presence")], none⟩ := by decide +kernel
theorem pd_285bC29V : parseMethodDescriptor "([C)V" = some ⟨[(.array .char)], none⟩ := by decide +kernel
theorem pd_28C29Ljava2flang2fString3b : parseMethodDescriptor "(C)Ljava/lang/String;" = some ⟨[.char], some (.object "java/lang/String")⟩ := by decide +kernel
theorem pd_28Ljava2flang2fString3bLjava2flang2fString3bLjava2flang2fString3b29Lcom2fexample2fvestline2fvestline2fcli2fOption3b : parseMethodDescriptor "(Ljava/lang/String;Ljava/lang/String;Ljava/lang/String;)Lcom/example/vestline/vestline/cli/Option;" = some ⟨[(.object "java/lang/String"), (.object "java/lang/String"), (.object "java/lang/String")], some (.object "com/example/vestline/vestline/cli/Option")⟩ := by decide +kernel
theorem pd_2829Z : parseMethodDescriptor "()Z" = some ⟨[], some .boolean⟩ := by decide +kernel
theorem d5_0 : decode jdk_52_method_21_code 0 = .ok (.iconst 0, 1) := by decide +kernel
theorem d5_1 : decode jdk_52_method_21_code 1 = .ok (.istore 5, 2) := by decide +kernel
theorem d5_3 : decode jdk_52_method_21_code 3 = .ok (.iload 5, 2) := by decide +kernel
theorem d5_5 : decode jdk_52_method_21_code 5 = .ok (.iload 4, 2) := by decide +kernel
theorem d5_7 : decode jdk_52_method_21_code 7 = .ok (.if_icmp .ge 37, 3) := by decide +kernel
theorem d5_10 : decode jdk_52_method_21_code 10 = .ok (.aload_n 0, 1) := by decide +kernel
theorem d5_11 : decode jdk_52_method_21_code 11 = .ok (.iload_n 1, 1) := by decide +kernel
theorem d5_12 : decode jdk_52_method_21_code 12 = .ok (.caload, 1) := by decide +kernel
theorem d5_13 : decode jdk_52_method_21_code 13 = .ok (.istore 6, 2) := by decide +kernel
theorem d5_15 : decode jdk_52_method_21_code 15 = .ok (.iload 6, 2) := by decide +kernel
theorem d5_17 : decode jdk_52_method_21_code 17 = .ok (.sipush 255, 3) := by decide +kernel
theorem d5_20 : decode jdk_52_method_21_code 20 = .ok (.if_icmp .le 6, 3) := by decide +kernel
theorem d5_26 : decode jdk_52_method_21_code 26 = .ok (.aload_n 2, 1) := by decide +kernel
theorem d5_27 : decode jdk_52_method_21_code 27 = .ok (.iload_n 3, 1) := by decide +kernel
theorem d5_28 : decode jdk_52_method_21_code 28 = .ok (.iload 6, 2) := by decide +kernel
theorem d5_30 : decode jdk_52_method_21_code 30 = .ok (.i2b, 1) := by decide +kernel
theorem d5_31 : decode jdk_52_method_21_code 31 = .ok (.bastore, 1) := by decide +kernel
theorem d5_32 : decode jdk_52_method_21_code 32 = .ok (.iinc 1 1, 3) := by decide +kernel
theorem d5_35 : decode jdk_52_method_21_code 35 = .ok (.iinc 3 1, 3) := by decide +kernel
theorem d5_38 : decode jdk_52_method_21_code 38 = .ok (.iinc 5 1, 3) := by decide +kernel
theorem d5_41 : decode jdk_52_method_21_code 41 = .ok (.goto (-38), 3) := by decide +kernel
theorem d5_44 : decode jdk_52_method_21_code 44 = .ok (.iload 4, 2) := by decide +kernel
theorem d5_46 : decode jdk_52_method_21_code 46 = .ok (.ireturn, 1) := by decide +kernel
def Q5_2 (Z : State) (q0 : Addr) (q2 : Addr) (kq : ClassId) (c0 : Int32) (c1 : Int32) (kb : ClassId) (h0 : Heap) (v : Option Value) (h : Heap) : Prop := v = some (.int (2 : Int32)) ∧ Keep h0 h [q2] ∧ Arv Z h q2 kb .byte (2 : Int32) [(.int (nar .byte (c0.toInt8.toInt32))), (.int (nar .byte (c1.toInt8.toInt32)))] (.int (0 : Int32))
abbrev GoB5_2 (l : Launch) (Z : State) (n0 : Nat) (Q : Option Value → Heap → Prop) := Go l Z ({ frames := 0, cells := 0, slots := 0, locals := 0 } : Room) (⟨"java/lang/StringUTF16", "compress", "([CI[BII)I"⟩ : MethodName) jdk_52_method_21_code 7 (some .int) n0 Q
theorem ef5_2 (m : MethodId) (q0 : Addr) (q2 : Addr) : entryFrame m #[(.ref q0), (.int (0 : Int32)), (.ref q2), (.int (0 : Int32)), (.int (2 : Int32))] 7 = mkF m 0 #[.val (.ref q0), .val (.int (0 : Int32)), .val (.ref q2), .val (.int (0 : Int32)), .val (.int (2 : Int32)), .unset, .unset] [] := by first | (simp [entryFrame, mkF, argsToLocals, Value.category]; done) | rfl
set_option maxRecDepth 65536 in
set_option maxHeartbeats 40000000 in
theorem rm5_2 (l : Launch) (Z : State) (a0 : Array Value) (hw : ∀ d ∈ tables_1, d.before a0 Z = true) (q0 : Addr) (q2 : Addr) (kq : ClassId) (c0 : Int32) (c1 : Int32) (kb : ClassId) (h0 : Heap) (n0 : Nat) (Z0 : n0 ≤ h0.size) (g_q2 : n0 ≤ q2) (V_q0 : Arv Z h0 q0 kq .char (2 : Int32) [(.int c0), (.int c1)] (.int (0 : Int32))) (V_q2 : Arv Z h0 q2 kb .byte (2 : Int32) [(.int (0 : Int32)), (.int (0 : Int32))] (.int (0 : Int32))) (le0 : ¬ (255 : Int32) < c0) (le1 : ¬ (255 : Int32) < c1) (ne02 : q0 ≠ q2) :
    Con l Z ({ frames := 0, cells := 0, slots := 0, locals := 0 } : Room) (⟨"java/lang/StringUTF16", "compress", "([CI[BII)I"⟩ : MethodName) jdk_52_method_21_code 7 (some .int) n0 #[(.ref q0), (.int (0 : Int32)), (.ref q2), (.int (0 : Int32)), (.int (2 : Int32))] h0 (Q5_2 Z q0 q2 kq c0 c1 kb h0) := by
  refine OwnW.Con.of (by first | decide +kernel | exact plainFor_of_name (by simp [plainName, overriddenIn])) (fun m => ef5_2 m q0 q2) ?_
  show GoB5_2 l Z n0 (Q5_2 Z q0 q2 kq c0 c1 kb h0) h0 0 0 0 #[.val (.ref q0), .val (.int (0 : Int32)), .val (.ref q2), .val (.int (0 : Int32)), .val (.int (2 : Int32)), .unset, .unset] []
  refine OwnW.iconst (pc' := 1) (v := (0 : Int32)) d5_0 rfl rfl ?_
  refine OwnW.istore (pc' := 3) (L' := #[.val (.ref q0), .val (.int (0 : Int32)), .val (.ref q2), .val (.int (0 : Int32)), .val (.int (2 : Int32)), .val (.int (0 : Int32)), .unset]) d5_1 rfl rfl ?_
  refine OwnW.iload (pc' := 5) d5_3 rfl rfl ?_
  refine OwnW.iload (pc' := 7) d5_5 rfl rfl ?_
  refine OwnW.icmpN (pc' := 10) d5_7 (tlt (by decide)).2.1 rfl ?_
  refine OwnW.aloadN (pc' := 11) d5_10 rfl (rfl) rfl ?_
  refine OwnW.iloadN (pc' := 12) d5_11 rfl rfl ?_
  obtain ⟨cl1, Ar1, qk1, Sz1, Mn1, Hv1, Gf1⟩ := id V_q0
  refine OwnW.caload (pc' := 13) (v := (.int c0)) d5_12 Ar1 (inb_of Sz1 ⟨by decide, by decide⟩) (Hv1.at (inb_of Sz1 ⟨by decide, by decide⟩) rfl) rfl ?_
  refine OwnW.istore (pc' := 15) (L' := #[.val (.ref q0), .val (.int (0 : Int32)), .val (.ref q2), .val (.int (0 : Int32)), .val (.int (2 : Int32)), .val (.int (0 : Int32)), .val (.int c0)]) d5_13 rfl rfl ?_
  refine OwnW.iload (pc' := 17) d5_15 rfl rfl ?_
  refine OwnW.sipush (pc' := 20) (v := (255 : Int32)) d5_17 rfl rfl ?_
  refine OwnW.icmpY (pc' := 26) d5_20 (flt le0).2.2.2 (by decide) (by decide) ?_
  refine OwnW.aloadN (pc' := 27) d5_26 rfl (rfl) rfl ?_
  refine OwnW.iloadN (pc' := 28) d5_27 rfl rfl ?_
  refine OwnW.iload (pc' := 30) d5_28 rfl rfl ?_
  refine OwnW.i2b (pc' := 31) d5_30 rfl ?_
  obtain ⟨cl2, Ar2, qk2, Sz2, Mn2, Hv2, Gf2⟩ := id V_q2
  refine OwnW.stB (pc' := 32) d5_31 Ar2 (inb_of Sz2 ⟨by decide, by decide⟩) g_q2 rfl ?_
  intro h2 W2
  have sz3 : n0 ≤ h2.size := (by rw [W2.size]; exact Z0)
  have V2 : Arv Z h2 q2 kb .byte (2 : Int32) [(.int (nar .byte (c0.toInt8.toInt32))), (.int (0 : Int32))] (.int (0 : Int32)) := Arv.set Ar2 qk2 Sz2 Mn2 Hv2 Gf2 (fits_nar_byte _) W2 0 rfl (Nat.le_of_ble_eq_true rfl)
  refine OwnW.iinc (pc' := 35) (L' := #[.val (.ref q0), .val (.int (1 : Int32)), .val (.ref q2), .val (.int (0 : Int32)), .val (.int (2 : Int32)), .val (.int (0 : Int32)), .val (.int c0)]) (d := (1 : Int32)) d5_32 rfl rfl rfl rfl ?_
  refine OwnW.iinc (pc' := 38) (L' := #[.val (.ref q0), .val (.int (1 : Int32)), .val (.ref q2), .val (.int (1 : Int32)), .val (.int (2 : Int32)), .val (.int (0 : Int32)), .val (.int c0)]) (d := (1 : Int32)) d5_35 rfl rfl rfl rfl ?_
  refine OwnW.iinc (pc' := 41) (L' := #[.val (.ref q0), .val (.int (1 : Int32)), .val (.ref q2), .val (.int (1 : Int32)), .val (.int (2 : Int32)), .val (.int (1 : Int32)), .val (.int c0)]) (d := (1 : Int32)) d5_38 rfl rfl rfl rfl ?_
  refine OwnW.goto (pc' := 3) d5_41 (by decide) (by decide) ?_
  refine OwnW.iload (pc' := 5) d5_3 rfl rfl ?_
  refine OwnW.iload (pc' := 7) d5_5 rfl rfl ?_
  refine OwnW.icmpN (pc' := 10) d5_7 (tlt (by decide)).2.1 rfl ?_
  refine OwnW.aloadN (pc' := 11) d5_10 rfl (rfl) rfl ?_
  refine OwnW.iloadN (pc' := 12) d5_11 rfl rfl ?_
  have F4 := (V_q0.other W2 ne02)
  obtain ⟨cl5, Ar5, qk5, Sz5, Mn5, Hv5, Gf5⟩ := id F4
  refine OwnW.caload (pc' := 13) (v := (.int c1)) d5_12 Ar5 (inb_of Sz5 ⟨by decide, by decide⟩) (Hv5.at (inb_of Sz5 ⟨by decide, by decide⟩) rfl) rfl ?_
  refine OwnW.istore (pc' := 15) (L' := #[.val (.ref q0), .val (.int (1 : Int32)), .val (.ref q2), .val (.int (1 : Int32)), .val (.int (2 : Int32)), .val (.int (1 : Int32)), .val (.int c1)]) d5_13 rfl rfl ?_
  refine OwnW.iload (pc' := 17) d5_15 rfl rfl ?_
  refine OwnW.sipush (pc' := 20) (v := (255 : Int32)) d5_17 rfl rfl ?_
  refine OwnW.icmpY (pc' := 26) d5_20 (flt le1).2.2.2 (by decide) (by decide) ?_
  refine OwnW.aloadN (pc' := 27) d5_26 rfl (rfl) rfl ?_
  refine OwnW.iloadN (pc' := 28) d5_27 rfl rfl ?_
  refine OwnW.iload (pc' := 30) d5_28 rfl rfl ?_
  refine OwnW.i2b (pc' := 31) d5_30 rfl ?_
  obtain ⟨cl6, Ar6, qk6, Sz6, Mn6, Hv6, Gf6⟩ := id V2
  refine OwnW.stB (pc' := 32) d5_31 Ar6 (inb_of Sz6 ⟨by decide, by decide⟩) g_q2 rfl ?_
  intro h6 W6
  have sz7 : n0 ≤ h6.size := (by rw [W6.size]; exact sz3)
  have V6 : Arv Z h6 q2 kb .byte (2 : Int32) [(.int (nar .byte (c0.toInt8.toInt32))), (.int (nar .byte (c1.toInt8.toInt32)))] (.int (0 : Int32)) := Arv.set Ar6 qk6 Sz6 Mn6 Hv6 Gf6 (fits_nar_byte _) W6 1 rfl (Nat.le_of_ble_eq_true rfl)
  refine OwnW.iinc (pc' := 35) (L' := #[.val (.ref q0), .val (.int (2 : Int32)), .val (.ref q2), .val (.int (1 : Int32)), .val (.int (2 : Int32)), .val (.int (1 : Int32)), .val (.int c1)]) (d := (1 : Int32)) d5_32 rfl rfl rfl rfl ?_
  refine OwnW.iinc (pc' := 38) (L' := #[.val (.ref q0), .val (.int (2 : Int32)), .val (.ref q2), .val (.int (2 : Int32)), .val (.int (2 : Int32)), .val (.int (1 : Int32)), .val (.int c1)]) (d := (1 : Int32)) d5_35 rfl rfl rfl rfl ?_
  refine OwnW.iinc (pc' := 41) (L' := #[.val (.ref q0), .val (.int (2 : Int32)), .val (.ref q2), .val (.int (2 : Int32)), .val (.int (2 : Int32)), .val (.int (2 : Int32)), .val (.int c1)]) (d := (1 : Int32)) d5_38 rfl rfl rfl rfl ?_
  refine OwnW.goto (pc' := 3) d5_41 (by decide) (by decide) ?_
  refine OwnW.iload (pc' := 5) d5_3 rfl rfl ?_
  refine OwnW.iload (pc' := 7) d5_5 rfl rfl ?_
  refine OwnW.icmpY (pc' := 44) d5_7 (flt (by decide)).2.1 (by decide) (by decide) ?_
  refine OwnW.iload (pc' := 46) d5_44 rfl rfl ?_
  exact OwnW.retI d5_46 rfl (by decide) (by decide) (⟨rfl, (((Keep.refl h0 [q2]).wr W2 (Or.inl (List.mem_of_getElem? (i := 0) rfl))).wr W6 (Or.inl (List.mem_of_getElem? (i := 0) rfl))), V6⟩)
theorem d4_0 : decode jdk_52_method_16_code 0 = .ok (.iload_n 2, 1) := by decide +kernel
theorem d4_1 : decode jdk_52_method_16_code 1 = .ok (.newarray .byte, 2) := by decide +kernel
theorem d4_3 : decode jdk_52_method_16_code 3 = .ok (.astore_n 3, 1) := by decide +kernel
theorem d4_4 : decode jdk_52_method_16_code 4 = .ok (.aload_n 0, 1) := by decide +kernel
theorem d4_5 : decode jdk_52_method_16_code 5 = .ok (.iload_n 1, 1) := by decide +kernel
theorem d4_6 : decode jdk_52_method_16_code 6 = .ok (.aload_n 3, 1) := by decide +kernel
theorem d4_7 : decode jdk_52_method_16_code 7 = .ok (.iconst 0, 1) := by decide +kernel
theorem d4_8 : decode jdk_52_method_16_code 8 = .ok (.iload_n 2, 1) := by decide +kernel
theorem d4_9 : decode jdk_52_method_16_code 9 = .ok (.invokestatic 115, 3) := by decide +kernel
theorem d4_12 : decode jdk_52_method_16_code 12 = .ok (.istore 4, 2) := by decide +kernel
theorem d4_14 : decode jdk_52_method_16_code 14 = .ok (.iload 4, 2) := by decide +kernel
theorem d4_16 : decode jdk_52_method_16_code 16 = .ok (.iload_n 2, 1) := by decide +kernel
theorem d4_17 : decode jdk_52_method_16_code 17 = .ok (.if_icmp .eq 40, 3) := by decide +kernel
theorem d4_57 : decode jdk_52_method_16_code 57 = .ok (.aload_n 3, 1) := by decide +kernel
theorem d4_58 : decode jdk_52_method_16_code 58 = .ok (.areturn, 1) := by decide +kernel
def Q4_2 (Z : State) (q0 : Addr) (kq : ClassId) (c0 : Int32) (c1 : Int32) (h0 : Heap) (v : Option Value) (h : Heap) : Prop := ∃ (x0 : Addr) (k0 : ClassId), v = some (.ref x0) ∧ Keep h0 h [] ∧ h0.size ≤ x0 ∧ Arv Z h x0 k0 .byte (2 : Int32) [(.int (nar .byte (c0.toInt8.toInt32))), (.int (nar .byte (c1.toInt8.toInt32)))] (.int (0 : Int32))
abbrev GoB4_2 (l : Launch) (Z : State) (n0 : Nat) (Q : Option Value → Heap → Prop) := Go l Z ({ frames := 1, cells := 1, slots := 2, locals := 18 } : Room) (⟨"java/lang/StringUTF16", "compress", "([CII)[B"⟩ : MethodName) jdk_52_method_16_code 6 (some (.array .byte)) n0 Q
theorem ef4_2 (m : MethodId) (q0 : Addr) : entryFrame m #[(.ref q0), (.int (0 : Int32)), (.int (2 : Int32))] 6 = mkF m 0 #[.val (.ref q0), .val (.int (0 : Int32)), .val (.int (2 : Int32)), .unset, .unset, .unset] [] := by first | (simp [entryFrame, mkF, argsToLocals, Value.category]; done) | rfl
set_option maxRecDepth 65536 in
set_option maxHeartbeats 40000000 in
theorem rm4_2 (l : Launch) (Z : State) (a0 : Array Value) (hw : ∀ d ∈ tables_1, d.before a0 Z = true) (q0 : Addr) (kq : ClassId) (c0 : Int32) (c1 : Int32) (h0 : Heap) (n0 : Nat) (Z0 : n0 ≤ h0.size) (V_q0 : Arv Z h0 q0 kq .char (2 : Int32) [(.int c0), (.int c1)] (.int (0 : Int32))) (le0 : ¬ (255 : Int32) < c0) (le1 : ¬ (255 : Int32) < c1) :
    Con l Z ({ frames := 1, cells := 1, slots := 2, locals := 18 } : Room) (⟨"java/lang/StringUTF16", "compress", "([CII)[B"⟩ : MethodName) jdk_52_method_16_code 6 (some (.array .byte)) n0 #[(.ref q0), (.int (0 : Int32)), (.int (2 : Int32))] h0 (Q4_2 Z q0 kq c0 c1 h0) := by
  refine OwnW.Con.of (by first | decide +kernel | exact plainFor_of_name (by simp [plainName, overriddenIn])) (fun m => ef4_2 m q0) ?_
  show GoB4_2 l Z n0 (Q4_2 Z q0 kq c0 c1 h0) h0 0 0 0 #[.val (.ref q0), .val (.int (0 : Int32)), .val (.int (2 : Int32)), .unset, .unset, .unset] []
  refine OwnW.iloadN (pc' := 1) d4_0 rfl rfl ?_
  refine OwnW.newP (a0 := a0) (pc' := 3) (cap := 2) (k' := 1) (n' := 2) d4_1 (hw _ (List.mem_of_getElem? (i := 23) rfl)) (by decide) (by decide) (by decide) rfl rfl (by decide) (by decide) rfl ?_
  intro h1 kc1 ad1 g1 E1 A1
  have lt_q0_ad1 : q0 < ad1 := Nat.lt_of_lt_of_le (V_q0).lt (Nat.le_of_eq g1.symm)
  have ge_ad1 : n0 ≤ ad1 := Nat.le_trans Z0 (Nat.le_of_eq g1.symm)
  have sz_ad1 : n0 ≤ h1.size := Nat.le_trans Z0 E1.1
  have V1 : Arv Z h1 ad1 kc1 .byte (2 : Int32) [(.int (0 : Int32)), (.int (0 : Int32))] (.int (0 : Int32)) := (Arv.new A1 (by decide)).pad (pad_rep [] _ 2)
  refine OwnW.astoreN (pc' := 4) (L' := #[.val (.ref q0), .val (.int (0 : Int32)), .val (.int (2 : Int32)), .val (.ref ad1), .unset, .unset]) d4_3 (rfl) rfl rfl ?_
  refine OwnW.aloadN (pc' := 5) d4_4 rfl (rfl) rfl ?_
  refine OwnW.iloadN (pc' := 6) d4_5 rfl rfl ?_
  refine OwnW.aloadN (pc' := 7) d4_6 rfl (rfl) rfl ?_
  refine OwnW.iconst (pc' := 8) (v := (0 : Int32)) d4_7 rfl rfl ?_
  refine OwnW.iloadN (pc' := 9) d4_8 rfl rfl ?_
  have F2 := (V_q0.ext E1)
  refine OwnW.callS (a0 := a0) (pc' := 12) (W := 0) (k' := 1) (n' := 2) (argsL := [(.ref q0), (.int (0 : Int32)), (.ref ad1), (.int (0 : Int32)), (.int (2 : Int32))]) (rest := []) d4_9 (hw _ (List.mem_of_getElem? (i := 24) rfl)) (hw _ (List.mem_of_getElem? (i := 25) rfl)) (hw _ (List.mem_of_getElem? (i := 21) rfl)) (hw _ (List.mem_of_getElem? (i := 26) rfl)) (by decide) (rm5_2 l Z a0 hw q0 ad1 kq c0 c1 kc1 h1 n0 sz_ad1 ge_ad1 F2 V1 le0 le1 (Nat.ne_of_lt lt_q0_ad1)) (by decide) (by decide) rfl rfl (by decide) (by decide) rfl pd_285bCI5bBII29I rfl rfl rfl (Nat.le_of_ble_eq_true rfl) rfl ?_
  rintro h3 v3 ⟨rfl, K3, Fc3_0⟩
  have sz4 : n0 ≤ h3.size := Nat.le_trans sz_ad1 K3.1
  show GoB4_2 l Z n0 (Q4_2 Z q0 kq c0 c1 h0) h3 1 2 12 #[.val (.ref q0), .val (.int (0 : Int32)), .val (.int (2 : Int32)), .val (.ref ad1), .unset, .unset] [(.int (2 : Int32))]
  refine OwnW.istore (pc' := 14) (L' := #[.val (.ref q0), .val (.int (0 : Int32)), .val (.int (2 : Int32)), .val (.ref ad1), .val (.int (2 : Int32)), .unset]) d4_12 rfl rfl ?_
  refine OwnW.iload (pc' := 16) d4_14 rfl rfl ?_
  refine OwnW.iloadN (pc' := 17) d4_16 rfl rfl ?_
  refine OwnW.icmpY (pc' := 57) d4_17 (teq (by decide)).1 (by decide) (by decide) ?_
  refine OwnW.aloadN (pc' := 58) d4_57 rfl (rfl) rfl ?_
  exact OwnW.retA d4_58 rfl rfl rfl (by decide) (by decide) (⟨ad1, kc1, rfl, (((Keep.refl h0 []).ext E1).trans K3 (allS (Or.inr (Nat.le_trans (Nat.le_refl _) (Nat.le_of_eq g1.symm))) all0)), (Nat.le_trans (Nat.le_refl _) (Nat.le_of_eq g1.symm)), Fc3_0⟩)
theorem d6_0 : decode jdk_52_method_15_code 0 = .ok (.iload_n 1, 1) := by decide +kernel
theorem d6_1 : decode jdk_52_method_15_code 1 = .ok (.aload_n 0, 1) := by decide +kernel
theorem d6_2 : decode jdk_52_method_15_code 2 = .ok (.arraylength, 1) := by decide +kernel
theorem d6_3 : decode jdk_52_method_15_code 3 = .ok (.isub, 1) := by decide +kernel
theorem d6_4 : decode jdk_52_method_15_code 4 = .ok (.bipush 31, 2) := by decide +kernel
theorem d6_6 : decode jdk_52_method_15_code 6 = .ok (.iushr, 1) := by decide +kernel
theorem d6_7 : decode jdk_52_method_15_code 7 = .ok (.i2b, 1) := by decide +kernel
theorem d6_8 : decode jdk_52_method_15_code 8 = .ok (.ireturn, 1) := by decide +kernel
def f6_2 (q0 : Addr) (kb : ClassId) (c0 : Int32) (c1 : Int32) : Int32 := (0 : Int32)
abbrev GoB6_2 (l : Launch) (Z : State) (n0 : Nat) (Q : Option Value → Heap → Prop) := Go l Z ({ frames := 0, cells := 0, slots := 0, locals := 0 } : Room) (⟨"java/lang/StringUTF16", "coderFromArrayLen", "([BI)B"⟩ : MethodName) jdk_52_method_15_code 2 (some .byte) n0 Q
theorem ef6_2 (m : MethodId) (q0 : Addr) : entryFrame m #[(.ref q0), (.int (2 : Int32))] 2 = mkF m 0 #[.val (.ref q0), .val (.int (2 : Int32))] [] := by first | (simp [entryFrame, mkF, argsToLocals, Value.category]; done) | rfl
set_option maxRecDepth 65536 in
set_option maxHeartbeats 40000000 in
theorem rm6_2 (l : Launch) (Z : State) (a0 : Array Value) (hw : ∀ d ∈ tables_1, d.before a0 Z = true) (q0 : Addr) (kb : ClassId) (c0 : Int32) (c1 : Int32) (h0 : Heap) (n0 : Nat) (V_a : Arv Z h0 q0 kb .byte (2 : Int32) [(.int c0), (.int c1)] (.int (0 : Int32))) :
    Con l Z ({ frames := 0, cells := 0, slots := 0, locals := 0 } : Room) (⟨"java/lang/StringUTF16", "coderFromArrayLen", "([BI)B"⟩ : MethodName) jdk_52_method_15_code 2 (some .byte) n0 #[(.ref q0), (.int (2 : Int32))] h0 (OwnW.Ret (some (.int (f6_2 q0 kb c0 c1))) h0) := by
  refine OwnW.Con.of (by first | decide +kernel | exact plainFor_of_name (by simp [plainName, overriddenIn])) (fun m => ef6_2 m q0) ?_
  show GoB6_2 l Z n0 (OwnW.Ret (some (.int (f6_2 q0 kb c0 c1))) h0) h0 0 0 0 #[.val (.ref q0), .val (.int (2 : Int32))] []
  refine OwnW.iloadN (pc' := 1) d6_0 rfl rfl ?_
  refine OwnW.aloadN (pc' := 2) d6_1 rfl (rfl) rfl ?_
  obtain ⟨cl1, Ar1, qk1, Sz1, Mn1, Hv1, Gf1⟩ := id V_a
  refine OwnW.alen (pc' := 3) (x := (2 : Int32)) d6_2 Ar1 (len_of Sz1 Mn1) rfl ?_
  refine OwnW.isub (pc' := 4) d6_3 rfl ?_
  show GoB6_2 l Z n0 (OwnW.Ret (some (.int (f6_2 q0 kb c0 c1))) h0) h0 0 0 4 #[.val (.ref q0), .val (.int (2 : Int32))] [(.int (0 : Int32))]
  refine OwnW.bipush (pc' := 6) (v := (31 : Int32)) d6_4 rfl rfl ?_
  refine OwnW.iushr (pc' := 7) d6_6 rfl ?_
  show GoB6_2 l Z n0 (OwnW.Ret (some (.int (f6_2 q0 kb c0 c1))) h0) h0 0 0 7 #[.val (.ref q0), .val (.int (2 : Int32))] [(.int (0 : Int32))]
  refine OwnW.i2b (pc' := 8) d6_7 rfl ?_
  show GoB6_2 l Z n0 (OwnW.Ret (some (.int (f6_2 q0 kb c0 c1))) h0) h0 0 0 8 #[.val (.ref q0), .val (.int (2 : Int32))] [(.int (0 : Int32))]
  exact OwnW.retN (t := .byte) d6_8 rfl (by simp) rfl (by decide) (by decide) (⟨by first | (simp only [f6_2]; done) | (simp only [f6_2]; rfl), rfl⟩)
theorem d2_0 : decode jdk_42_method_149_code 0 = .ok (.aload_n 0, 1) := by decide +kernel
theorem d2_1 : decode jdk_42_method_149_code 1 = .ok (.invokespecial 1, 3) := by decide +kernel
theorem d2_4 : decode jdk_42_method_149_code 4 = .ok (.iload_n 3, 1) := by decide +kernel
theorem d2_5 : decode jdk_42_method_149_code 5 = .ok (.ifCond .ne 22, 3) := by decide +kernel
theorem d2_27 : decode jdk_42_method_149_code 27 = .ok (.getstatic 38, 3) := by decide +kernel
theorem d2_30 : decode jdk_42_method_149_code 30 = .ok (.ifCond .eq 28, 3) := by decide +kernel
theorem d2_33 : decode jdk_42_method_149_code 33 = .ok (.aload_n 1, 1) := by decide +kernel
theorem d2_34 : decode jdk_42_method_149_code 34 = .ok (.iload_n 2, 1) := by decide +kernel
theorem d2_35 : decode jdk_42_method_149_code 35 = .ok (.iload_n 3, 1) := by decide +kernel
theorem d2_36 : decode jdk_42_method_149_code 36 = .ok (.invokestatic 177, 3) := by decide +kernel
theorem d2_39 : decode jdk_42_method_149_code 39 = .ok (.astore 5, 2) := by decide +kernel
theorem d2_41 : decode jdk_42_method_149_code 41 = .ok (.aload_n 0, 1) := by decide +kernel
theorem d2_42 : decode jdk_42_method_149_code 42 = .ok (.aload 5, 2) := by decide +kernel
theorem d2_44 : decode jdk_42_method_149_code 44 = .ok (.iload_n 3, 1) := by decide +kernel
theorem d2_45 : decode jdk_42_method_149_code 45 = .ok (.invokestatic 47, 3) := by decide +kernel
theorem d2_48 : decode jdk_42_method_149_code 48 = .ok (.putfield 15, 3) := by decide +kernel
theorem d2_51 : decode jdk_42_method_149_code 51 = .ok (.aload_n 0, 1) := by decide +kernel
theorem d2_52 : decode jdk_42_method_149_code 52 = .ok (.aload 5, 2) := by decide +kernel
theorem d2_54 : decode jdk_42_method_149_code 54 = .ok (.putfield 9, 3) := by decide +kernel
theorem d2_57 : decode jdk_42_method_149_code 57 = .ok (.return_, 1) := by decide +kernel
def Q2_2 (Z : State) (o : Addr) (q0 : Addr) (kq : ClassId) (c0 : Int32) (c1 : Int32) (cs : Int32) (h0 : Heap) (v : Option Value) (h : Heap) : Prop := v = none ∧ Keep h0 h [o]
abbrev GoB2_2 (l : Launch) (Z : State) (n0 : Nat) (Q : Option Value → Heap → Prop) := Go l Z ({ frames := 2, cells := 1, slots := 2, locals := 35 } : Room) (⟨"java/lang/String", "<init>", "([CIILjava/lang/Void;)V"⟩ : MethodName) jdk_42_method_149_code 6 none n0 Q
theorem ef2_2 (m : MethodId) (o : Addr) (q0 : Addr) : entryFrame m #[(.ref o), (.ref q0), (.int (0 : Int32)), (.int (2 : Int32)), .null] 6 = mkF m 0 #[.val (.ref o), .val (.ref q0), .val (.int (0 : Int32)), .val (.int (2 : Int32)), .val .null, .unset] [] := by first | (simp [entryFrame, mkF, argsToLocals, Value.category]; done) | rfl
set_option maxRecDepth 65536 in
set_option maxHeartbeats 40000000 in
theorem rm2_2 (l : Launch) (Z : State) (a0 : Array Value) (hw : ∀ d ∈ tables_1, d.before a0 Z = true) (o : Addr) (q0 : Addr) (kq : ClassId) (c0 : Int32) (c1 : Int32) (cs : Int32) (h0 : Heap) (n0 : Nat) (Z0 : n0 ≤ h0.size) (g_o : n0 ≤ o) (E_o : Exa Z h0 o "java/lang/String") (F_value : Fld Z h0 o "java/lang/String" "value" "[B" .null) (F_coder : Fld Z h0 o "java/lang/String" "coder" "B" (.int (0 : Int32))) (V_q0 : Arv Z h0 q0 kq .char (2 : Int32) [(.int c0), (.int c1)] (.int (0 : Int32))) (S_cs : Sta Z h0 "java/lang/String" "COMPACT_STRINGS" "Z" (.int cs)) (le0 : ¬ (255 : Int32) < c0) (le1 : ¬ (255 : Int32) < c1) (hcs : ¬ cs = (0 : Int32)) :
    Con l Z ({ frames := 2, cells := 1, slots := 2, locals := 35 } : Room) (⟨"java/lang/String", "<init>", "([CIILjava/lang/Void;)V"⟩ : MethodName) jdk_42_method_149_code 6 none n0 #[(.ref o), (.ref q0), (.int (0 : Int32)), (.int (2 : Int32)), .null] h0 (Q2_2 Z o q0 kq c0 c1 cs h0) := by
  refine OwnW.Con.of (by first | decide +kernel | exact plainFor_of_name (by simp [plainName, overriddenIn])) (fun m => ef2_2 m o q0) ?_
  show GoB2_2 l Z n0 (Q2_2 Z o q0 kq c0 c1 cs h0) h0 0 0 0 #[.val (.ref o), .val (.ref q0), .val (.int (0 : Int32)), .val (.int (2 : Int32)), .val .null, .unset] []
  refine OwnW.aloadN (pc' := 1) d2_0 rfl (rfl) rfl ?_
  refine OwnW.initO (a0 := a0) (pc' := 4) (W := 0) d2_1 (hw _ (List.mem_of_getElem? (i := 15) rfl)) (hw _ (List.mem_of_getElem? (i := 16) rfl)) (hw _ (List.mem_of_getElem? (i := 17) rfl)) rfl (by decide) (Nat.le_of_ble_eq_true rfl) (by decide) rfl ?_
  refine OwnW.iloadN (pc' := 5) d2_4 rfl rfl ?_
  refine OwnW.ifcY (pc' := 27) d2_5 ((if0 _ _).trans (feq (by decide)).2) (by decide) (by decide) ?_
  refine OwnW.getS (a0 := a0) (pc' := 30) d2_27 (host := "") (Or.inl (hw _ (List.mem_of_getElem? (i := 18) rfl))) Via.refl S_cs rfl ?_
  refine OwnW.ifcN (pc' := 33) d2_30 ((if0 _ _).trans (feq hcs).1) rfl ?_
  refine OwnW.aloadN (pc' := 34) d2_33 rfl (rfl) rfl ?_
  refine OwnW.iloadN (pc' := 35) d2_34 rfl rfl ?_
  refine OwnW.iloadN (pc' := 36) d2_35 rfl rfl ?_
  refine OwnW.callS (a0 := a0) (pc' := 39) (W := 0) (k' := 1) (n' := 2) (argsL := [(.ref q0), (.int (0 : Int32)), (.int (2 : Int32))]) (rest := []) d2_36 (hw _ (List.mem_of_getElem? (i := 19) rfl)) (hw _ (List.mem_of_getElem? (i := 20) rfl)) (hw _ (List.mem_of_getElem? (i := 21) rfl)) (hw _ (List.mem_of_getElem? (i := 22) rfl)) (by decide) (rm4_2 l Z a0 hw q0 kq c0 c1 h0 n0 Z0 V_q0 le0 le1) (by decide) (by decide) rfl rfl (by decide) (by decide) rfl pd_285bCII295bB rfl rfl rfl (Nat.le_of_ble_eq_true rfl) rfl ?_
  rintro h1 v1 ⟨ad1_0, kc1_0, rfl, K1, gl1_0, Fc1_0⟩
  have lt_o_ad1_0 : o < ad1_0 := Nat.lt_of_lt_of_le (E_o).lt gl1_0
  have lt_q0_ad1_0 : q0 < ad1_0 := Nat.lt_of_lt_of_le (V_q0).lt gl1_0
  have ge_ad1_0 : n0 ≤ ad1_0 := Nat.le_trans Z0 gl1_0
  have S2 := OwnW.sta_keep S_cs K1 all0
  have sz3 : n0 ≤ h1.size := Nat.le_trans Z0 K1.1
  show GoB2_2 l Z n0 (Q2_2 Z o q0 kq c0 c1 cs h0) h1 1 2 39 #[.val (.ref o), .val (.ref q0), .val (.int (0 : Int32)), .val (.int (2 : Int32)), .val .null, .unset] [(.ref ad1_0)]
  refine OwnW.astore (pc' := 41) (L' := #[.val (.ref o), .val (.ref q0), .val (.int (0 : Int32)), .val (.int (2 : Int32)), .val .null, .val (.ref ad1_0)]) d2_39 (rfl) rfl rfl ?_
  refine OwnW.aloadN (pc' := 42) d2_41 rfl (rfl) rfl ?_
  refine OwnW.aload (pc' := 44) d2_42 rfl (rfl) rfl ?_
  refine OwnW.iloadN (pc' := 45) d2_44 rfl rfl ?_
  refine OwnW.callS0 (a0 := a0) (pc' := 48) (W := 1) (k' := 1) (n' := 2) (argsL := [(.ref ad1_0), (.int (2 : Int32))]) (rest := [(.ref o)]) (St' := [(.int (f6_2 ad1_0 kc1_0 (nar .byte (c0.toInt8.toInt32)) (nar .byte (c1.toInt8.toInt32)))), (.ref o)]) d2_45 (hw _ (List.mem_of_getElem? (i := 27) rfl)) (hw _ (List.mem_of_getElem? (i := 28) rfl)) (hw _ (List.mem_of_getElem? (i := 21) rfl)) (hw _ (List.mem_of_getElem? (i := 29) rfl)) (by decide) (rm6_2 l Z a0 hw ad1_0 kc1_0 (nar .byte (c0.toInt8.toInt32)) (nar .byte (c1.toInt8.toInt32)) h1 n0 Fc1_0) (by decide) (by decide) rfl rfl (by decide) (by decide) rfl pd_285bBI29B rfl rfl rfl (Nat.le_of_ble_eq_true rfl) rfl rfl ?_
  rw [show (f6_2 ad1_0 kc1_0 (nar .byte (c0.toInt8.toInt32)) (nar .byte (c1.toInt8.toInt32))) = (0 : Int32) from rfl]
  show GoB2_2 l Z n0 (Q2_2 Z o q0 kq c0 c1 cs h0) h1 1 2 48 #[.val (.ref o), .val (.ref q0), .val (.int (0 : Int32)), .val (.int (2 : Int32)), .val .null, .val (.ref ad1_0)] [(.int (0 : Int32)), (.ref o)]
  have F5 := (F_coder.keep K1 nin0)
  have F6 := (E_o.keep K1)
  refine OwnW.putFN (a0 := a0) (pc' := 51) (v' := (.int (0 : Int32))) d2_48 (hw _ (List.mem_of_getElem? (i := 30) rfl)) Via.refl F5 F6 (Or.inr ⟨(hw _ (List.mem_of_getElem? (i := 31) rfl)), rfl, rfl⟩) (hw _ (List.mem_of_getElem? (i := 6) rfl)) (ty := .byte) (by decide) rfl (by decide) g_o rfl ?_
  intro h4 W4
  have sz7 : n0 ≤ h4.size := (by rw [W4.size]; exact sz3)
  have F8 := F5.same W4
  refine OwnW.aloadN (pc' := 52) d2_51 rfl (rfl) rfl ?_
  refine OwnW.aload (pc' := 54) d2_52 rfl (rfl) rfl ?_
  have F10 := ((F_value.keep K1 nin0).other W4 (Or.inr (slot_ne (a0 := a0) (C := "java/lang/String") (Or.inr (hw _ (List.mem_of_getElem? (i := 33) rfl))) (Or.inr (hw _ (List.mem_of_getElem? (i := 31) rfl))) (by decide) (t := (.array .byte)) (t' := .byte) (by decide) (by decide))))
  have F11 := (F6.wr W4)
  refine OwnW.putF (a0 := a0) (pc' := 57) d2_54 (host := "") (Or.inl (hw _ (List.mem_of_getElem? (i := 32) rfl))) Via.refl F10 F11 (Or.inr ⟨(hw _ (List.mem_of_getElem? (i := 33) rfl)), rfl, rfl⟩) (hw _ (List.mem_of_getElem? (i := 6) rfl)) (ty := (.array .byte)) (by decide) rfl rfl g_o rfl ?_
  intro h9 W9
  have sz12 : n0 ≤ h9.size := (by rw [W9.size]; exact sz7)
  have F13 := F10.same W9
  exact OwnW.ret0 d2_57 rfl (by decide) (by decide) (⟨rfl, ((((Keep.refl h0 [o]).trans K1 all0).wr W4 (Or.inl (List.mem_of_getElem? (i := 0) rfl))).wr W9 (Or.inl (List.mem_of_getElem? (i := 0) rfl)))⟩)
theorem d1_0 : decode jdk_42_method_3_code 0 = .ok (.aload_n 0, 1) := by decide +kernel
theorem d1_1 : decode jdk_42_method_3_code 1 = .ok (.aload_n 1, 1) := by decide +kernel
theorem d1_2 : decode jdk_42_method_3_code 2 = .ok (.iconst 0, 1) := by decide +kernel
theorem d1_3 : decode jdk_42_method_3_code 3 = .ok (.aload_n 1, 1) := by decide +kernel
theorem d1_4 : decode jdk_42_method_3_code 4 = .ok (.arraylength, 1) := by decide +kernel
theorem d1_5 : decode jdk_42_method_3_code 5 = .ok (.aconst_null, 1) := by decide +kernel
theorem d1_6 : decode jdk_42_method_3_code 6 = .ok (.invokespecial 27, 3) := by decide +kernel
theorem d1_9 : decode jdk_42_method_3_code 9 = .ok (.return_, 1) := by decide +kernel
def Q1_2 (Z : State) (o : Addr) (q0 : Addr) (kq : ClassId) (c0 : Int32) (c1 : Int32) (cs : Int32) (h0 : Heap) (v : Option Value) (h : Heap) : Prop := v = none ∧ Keep h0 h [o]
abbrev GoB1_2 (l : Launch) (Z : State) (n0 : Nat) (Q : Option Value → Heap → Prop) := Go l Z ({ frames := 3, cells := 1, slots := 2, locals := 52 } : Room) (⟨"java/lang/String", "<init>", "([C)V"⟩ : MethodName) jdk_42_method_3_code 2 none n0 Q
theorem ef1_2 (m : MethodId) (o : Addr) (q0 : Addr) : entryFrame m #[(.ref o), (.ref q0)] 2 = mkF m 0 #[.val (.ref o), .val (.ref q0)] [] := by first | (simp [entryFrame, mkF, argsToLocals, Value.category]; done) | rfl
set_option maxRecDepth 65536 in
set_option maxHeartbeats 40000000 in
theorem rm1_2 (l : Launch) (Z : State) (a0 : Array Value) (hw : ∀ d ∈ tables_1, d.before a0 Z = true) (o : Addr) (q0 : Addr) (kq : ClassId) (c0 : Int32) (c1 : Int32) (cs : Int32) (h0 : Heap) (n0 : Nat) (Z0 : n0 ≤ h0.size) (g_o : n0 ≤ o) (E_o : Exa Z h0 o "java/lang/String") (F_value : Fld Z h0 o "java/lang/String" "value" "[B" .null) (F_coder : Fld Z h0 o "java/lang/String" "coder" "B" (.int (0 : Int32))) (V_q0 : Arv Z h0 q0 kq .char (2 : Int32) [(.int c0), (.int c1)] (.int (0 : Int32))) (S_cs : Sta Z h0 "java/lang/String" "COMPACT_STRINGS" "Z" (.int cs)) (le0 : ¬ (255 : Int32) < c0) (le1 : ¬ (255 : Int32) < c1) (hcs : ¬ cs = (0 : Int32)) :
    Con l Z ({ frames := 3, cells := 1, slots := 2, locals := 52 } : Room) (⟨"java/lang/String", "<init>", "([C)V"⟩ : MethodName) jdk_42_method_3_code 2 none n0 #[(.ref o), (.ref q0)] h0 (Q1_2 Z o q0 kq c0 c1 cs h0) := by
  refine OwnW.Con.of (by first | decide +kernel | exact plainFor_of_name (by simp [plainName, overriddenIn])) (fun m => ef1_2 m o q0) ?_
  show GoB1_2 l Z n0 (Q1_2 Z o q0 kq c0 c1 cs h0) h0 0 0 0 #[.val (.ref o), .val (.ref q0)] []
  refine OwnW.aloadN (pc' := 1) d1_0 rfl (rfl) rfl ?_
  refine OwnW.aloadN (pc' := 2) d1_1 rfl (rfl) rfl ?_
  refine OwnW.iconst (pc' := 3) (v := (0 : Int32)) d1_2 rfl rfl ?_
  refine OwnW.aloadN (pc' := 4) d1_3 rfl (rfl) rfl ?_
  obtain ⟨cl1, Ar1, qk1, Sz1, Mn1, Hv1, Gf1⟩ := id V_q0
  refine OwnW.alen (pc' := 5) (x := (2 : Int32)) d1_4 Ar1 (len_of Sz1 Mn1) rfl ?_
  refine OwnW.aconstNull (pc' := 6) d1_5 rfl ?_
  refine OwnW.callI (a0 := a0) (pc' := 9) (W := 0) (k' := 1) (n' := 2) (argsL := [(.ref q0), (.int (0 : Int32)), (.int (2 : Int32)), .null]) (rest := []) d1_6 rfl (hw _ (List.mem_of_getElem? (i := 11) rfl)) (hw _ (List.mem_of_getElem? (i := 12) rfl)) (hw _ (List.mem_of_getElem? (i := 7) rfl)) (hw _ (List.mem_of_getElem? (i := 14) rfl)) (by decide) (rm2_2 l Z a0 hw o q0 kq c0 c1 cs h0 n0 Z0 g_o E_o F_value F_coder V_q0 S_cs le0 le1 hcs) (by decide) (by decide) rfl rfl (by decide) (by decide) rfl pd_285bCIILjava2flang2fVoid3b29V rfl rfl rfl (Nat.le_of_ble_eq_true rfl) rfl ?_
  rintro h2 v2 ⟨rfl, K2⟩
  have S3 := OwnW.sta_keep S_cs K2 (allS (OwnW.exa_ns E_o) all0)
  have sz4 : n0 ≤ h2.size := Nat.le_trans Z0 K2.1
  show GoB1_2 l Z n0 (Q1_2 Z o q0 kq c0 c1 cs h0) h2 1 2 9 #[.val (.ref o), .val (.ref q0)] []
  exact OwnW.ret0 d1_9 rfl (by decide) (by decide) (⟨rfl, ((Keep.refl h0 [o]).trans K2 (allS (Or.inl (List.mem_of_getElem? (i := 0) rfl)) all0))⟩)
def Q5_3 (Z : State) (q0 : Addr) (q2 : Addr) (kq : ClassId) (c0 : Int32) (c1 : Int32) (c2 : Int32) (kb : ClassId) (h0 : Heap) (v : Option Value) (h : Heap) : Prop := v = some (.int (3 : Int32)) ∧ Keep h0 h [q2] ∧ Arv Z h q2 kb .byte (3 : Int32) [(.int (nar .byte (c0.toInt8.toInt32))), (.int (nar .byte (c1.toInt8.toInt32))), (.int (nar .byte (c2.toInt8.toInt32)))] (.int (0 : Int32))
abbrev GoB5_3 (l : Launch) (Z : State) (n0 : Nat) (Q : Option Value → Heap → Prop) := Go l Z ({ frames := 0, cells := 0, slots := 0, locals := 0 } : Room) (⟨"java/lang/StringUTF16", "compress", "([CI[BII)I"⟩ : MethodName) jdk_52_method_21_code 7 (some .int) n0 Q
theorem ef5_3 (m : MethodId) (q0 : Addr) (q2 : Addr) : entryFrame m #[(.ref q0), (.int (0 : Int32)), (.ref q2), (.int (0 : Int32)), (.int (3 : Int32))] 7 = mkF m 0 #[.val (.ref q0), .val (.int (0 : Int32)), .val (.ref q2), .val (.int (0 : Int32)), .val (.int (3 : Int32)), .unset, .unset] [] := by first | (simp [entryFrame, mkF, argsToLocals, Value.category]; done) | rfl
set_option maxRecDepth 65536 in
set_option maxHeartbeats 40000000 in
theorem rm5_3 (l : Launch) (Z : State) (a0 : Array Value) (hw : ∀ d ∈ tables_1, d.before a0 Z = true) (q0 : Addr) (q2 : Addr) (kq : ClassId) (c0 : Int32) (c1 : Int32) (c2 : Int32) (kb : ClassId) (h0 : Heap) (n0 : Nat) (Z0 : n0 ≤ h0.size) (g_q2 : n0 ≤ q2) (V_q0 : Arv Z h0 q0 kq .char (3 : Int32) [(.int c0), (.int c1), (.int c2)] (.int (0 : Int32))) (V_q2 : Arv Z h0 q2 kb .byte (3 : Int32) [(.int (0 : Int32)), (.int (0 : Int32)), (.int (0 : Int32))] (.int (0 : Int32))) (le0 : ¬ (255 : Int32) < c0) (le1 : ¬ (255 : Int32) < c1) (le2 : ¬ (255 : Int32) < c2) (ne02 : q0 ≠ q2) :
    Con l Z ({ frames := 0, cells := 0, slots := 0, locals := 0 } : Room) (⟨"java/lang/StringUTF16", "compress", "([CI[BII)I"⟩ : MethodName) jdk_52_method_21_code 7 (some .int) n0 #[(.ref q0), (.int (0 : Int32)), (.ref q2), (.int (0 : Int32)), (.int (3 : Int32))] h0 (Q5_3 Z q0 q2 kq c0 c1 c2 kb h0) := by
  refine OwnW.Con.of (by first | decide +kernel | exact plainFor_of_name (by simp [plainName, overriddenIn])) (fun m => ef5_3 m q0 q2) ?_
  show GoB5_3 l Z n0 (Q5_3 Z q0 q2 kq c0 c1 c2 kb h0) h0 0 0 0 #[.val (.ref q0), .val (.int (0 : Int32)), .val (.ref q2), .val (.int (0 : Int32)), .val (.int (3 : Int32)), .unset, .unset] []
  refine OwnW.iconst (pc' := 1) (v := (0 : Int32)) d5_0 rfl rfl ?_
  refine OwnW.istore (pc' := 3) (L' := #[.val (.ref q0), .val (.int (0 : Int32)), .val (.ref q2), .val (.int (0 : Int32)), .val (.int (3 : Int32)), .val (.int (0 : Int32)), .unset]) d5_1 rfl rfl ?_
  refine OwnW.iload (pc' := 5) d5_3 rfl rfl ?_
  refine OwnW.iload (pc' := 7) d5_5 rfl rfl ?_
  refine OwnW.icmpN (pc' := 10) d5_7 (tlt (by decide)).2.1 rfl ?_
  refine OwnW.aloadN (pc' := 11) d5_10 rfl (rfl) rfl ?_
  refine OwnW.iloadN (pc' := 12) d5_11 rfl rfl ?_
  obtain ⟨cl1, Ar1, qk1, Sz1, Mn1, Hv1, Gf1⟩ := id V_q0
  refine OwnW.caload (pc' := 13) (v := (.int c0)) d5_12 Ar1 (inb_of Sz1 ⟨by decide, by decide⟩) (Hv1.at (inb_of Sz1 ⟨by decide, by decide⟩) rfl) rfl ?_
  refine OwnW.istore (pc' := 15) (L' := #[.val (.ref q0), .val (.int (0 : Int32)), .val (.ref q2), .val (.int (0 : Int32)), .val (.int (3 : Int32)), .val (.int (0 : Int32)), .val (.int c0)]) d5_13 rfl rfl ?_
  refine OwnW.iload (pc' := 17) d5_15 rfl rfl ?_
  refine OwnW.sipush (pc' := 20) (v := (255 : Int32)) d5_17 rfl rfl ?_
  refine OwnW.icmpY (pc' := 26) d5_20 (flt le0).2.2.2 (by decide) (by decide) ?_
  refine OwnW.aloadN (pc' := 27) d5_26 rfl (rfl) rfl ?_
  refine OwnW.iloadN (pc' := 28) d5_27 rfl rfl ?_
  refine OwnW.iload (pc' := 30) d5_28 rfl rfl ?_
  refine OwnW.i2b (pc' := 31) d5_30 rfl ?_
  obtain ⟨cl2, Ar2, qk2, Sz2, Mn2, Hv2, Gf2⟩ := id V_q2
  refine OwnW.stB (pc' := 32) d5_31 Ar2 (inb_of Sz2 ⟨by decide, by decide⟩) g_q2 rfl ?_
  intro h2 W2
  have sz3 : n0 ≤ h2.size := (by rw [W2.size]; exact Z0)
  have V2 : Arv Z h2 q2 kb .byte (3 : Int32) [(.int (nar .byte (c0.toInt8.toInt32))), (.int (0 : Int32)), (.int (0 : Int32))] (.int (0 : Int32)) := Arv.set Ar2 qk2 Sz2 Mn2 Hv2 Gf2 (fits_nar_byte _) W2 0 rfl (Nat.le_of_ble_eq_true rfl)
  refine OwnW.iinc (pc' := 35) (L' := #[.val (.ref q0), .val (.int (1 : Int32)), .val (.ref q2), .val (.int (0 : Int32)), .val (.int (3 : Int32)), .val (.int (0 : Int32)), .val (.int c0)]) (d := (1 : Int32)) d5_32 rfl rfl rfl rfl ?_
  refine OwnW.iinc (pc' := 38) (L' := #[.val (.ref q0), .val (.int (1 : Int32)), .val (.ref q2), .val (.int (1 : Int32)), .val (.int (3 : Int32)), .val (.int (0 : Int32)), .val (.int c0)]) (d := (1 : Int32)) d5_35 rfl rfl rfl rfl ?_
  refine OwnW.iinc (pc' := 41) (L' := #[.val (.ref q0), .val (.int (1 : Int32)), .val (.ref q2), .val (.int (1 : Int32)), .val (.int (3 : Int32)), .val (.int (1 : Int32)), .val (.int c0)]) (d := (1 : Int32)) d5_38 rfl rfl rfl rfl ?_
  refine OwnW.goto (pc' := 3) d5_41 (by decide) (by decide) ?_
  refine OwnW.iload (pc' := 5) d5_3 rfl rfl ?_
  refine OwnW.iload (pc' := 7) d5_5 rfl rfl ?_
  refine OwnW.icmpN (pc' := 10) d5_7 (tlt (by decide)).2.1 rfl ?_
  refine OwnW.aloadN (pc' := 11) d5_10 rfl (rfl) rfl ?_
  refine OwnW.iloadN (pc' := 12) d5_11 rfl rfl ?_
  have F4 := (V_q0.other W2 ne02)
  obtain ⟨cl5, Ar5, qk5, Sz5, Mn5, Hv5, Gf5⟩ := id F4
  refine OwnW.caload (pc' := 13) (v := (.int c1)) d5_12 Ar5 (inb_of Sz5 ⟨by decide, by decide⟩) (Hv5.at (inb_of Sz5 ⟨by decide, by decide⟩) rfl) rfl ?_
  refine OwnW.istore (pc' := 15) (L' := #[.val (.ref q0), .val (.int (1 : Int32)), .val (.ref q2), .val (.int (1 : Int32)), .val (.int (3 : Int32)), .val (.int (1 : Int32)), .val (.int c1)]) d5_13 rfl rfl ?_
  refine OwnW.iload (pc' := 17) d5_15 rfl rfl ?_
  refine OwnW.sipush (pc' := 20) (v := (255 : Int32)) d5_17 rfl rfl ?_
  refine OwnW.icmpY (pc' := 26) d5_20 (flt le1).2.2.2 (by decide) (by decide) ?_
  refine OwnW.aloadN (pc' := 27) d5_26 rfl (rfl) rfl ?_
  refine OwnW.iloadN (pc' := 28) d5_27 rfl rfl ?_
  refine OwnW.iload (pc' := 30) d5_28 rfl rfl ?_
  refine OwnW.i2b (pc' := 31) d5_30 rfl ?_
  obtain ⟨cl6, Ar6, qk6, Sz6, Mn6, Hv6, Gf6⟩ := id V2
  refine OwnW.stB (pc' := 32) d5_31 Ar6 (inb_of Sz6 ⟨by decide, by decide⟩) g_q2 rfl ?_
  intro h6 W6
  have sz7 : n0 ≤ h6.size := (by rw [W6.size]; exact sz3)
  have V6 : Arv Z h6 q2 kb .byte (3 : Int32) [(.int (nar .byte (c0.toInt8.toInt32))), (.int (nar .byte (c1.toInt8.toInt32))), (.int (0 : Int32))] (.int (0 : Int32)) := Arv.set Ar6 qk6 Sz6 Mn6 Hv6 Gf6 (fits_nar_byte _) W6 1 rfl (Nat.le_of_ble_eq_true rfl)
  refine OwnW.iinc (pc' := 35) (L' := #[.val (.ref q0), .val (.int (2 : Int32)), .val (.ref q2), .val (.int (1 : Int32)), .val (.int (3 : Int32)), .val (.int (1 : Int32)), .val (.int c1)]) (d := (1 : Int32)) d5_32 rfl rfl rfl rfl ?_
  refine OwnW.iinc (pc' := 38) (L' := #[.val (.ref q0), .val (.int (2 : Int32)), .val (.ref q2), .val (.int (2 : Int32)), .val (.int (3 : Int32)), .val (.int (1 : Int32)), .val (.int c1)]) (d := (1 : Int32)) d5_35 rfl rfl rfl rfl ?_
  refine OwnW.iinc (pc' := 41) (L' := #[.val (.ref q0), .val (.int (2 : Int32)), .val (.ref q2), .val (.int (2 : Int32)), .val (.int (3 : Int32)), .val (.int (2 : Int32)), .val (.int c1)]) (d := (1 : Int32)) d5_38 rfl rfl rfl rfl ?_
  refine OwnW.goto (pc' := 3) d5_41 (by decide) (by decide) ?_
  refine OwnW.iload (pc' := 5) d5_3 rfl rfl ?_
  refine OwnW.iload (pc' := 7) d5_5 rfl rfl ?_
  refine OwnW.icmpN (pc' := 10) d5_7 (tlt (by decide)).2.1 rfl ?_
  refine OwnW.aloadN (pc' := 11) d5_10 rfl (rfl) rfl ?_
  refine OwnW.iloadN (pc' := 12) d5_11 rfl rfl ?_
  have F8 := (F4.other W6 ne02)
  obtain ⟨cl9, Ar9, qk9, Sz9, Mn9, Hv9, Gf9⟩ := id F8
  refine OwnW.caload (pc' := 13) (v := (.int c2)) d5_12 Ar9 (inb_of Sz9 ⟨by decide, by decide⟩) (Hv9.at (inb_of Sz9 ⟨by decide, by decide⟩) rfl) rfl ?_
  refine OwnW.istore (pc' := 15) (L' := #[.val (.ref q0), .val (.int (2 : Int32)), .val (.ref q2), .val (.int (2 : Int32)), .val (.int (3 : Int32)), .val (.int (2 : Int32)), .val (.int c2)]) d5_13 rfl rfl ?_
  refine OwnW.iload (pc' := 17) d5_15 rfl rfl ?_
  refine OwnW.sipush (pc' := 20) (v := (255 : Int32)) d5_17 rfl rfl ?_
  refine OwnW.icmpY (pc' := 26) d5_20 (flt le2).2.2.2 (by decide) (by decide) ?_
  refine OwnW.aloadN (pc' := 27) d5_26 rfl (rfl) rfl ?_
  refine OwnW.iloadN (pc' := 28) d5_27 rfl rfl ?_
  refine OwnW.iload (pc' := 30) d5_28 rfl rfl ?_
  refine OwnW.i2b (pc' := 31) d5_30 rfl ?_
  obtain ⟨cl10, Ar10, qk10, Sz10, Mn10, Hv10, Gf10⟩ := id V6
  refine OwnW.stB (pc' := 32) d5_31 Ar10 (inb_of Sz10 ⟨by decide, by decide⟩) g_q2 rfl ?_
  intro h10 W10
  have sz11 : n0 ≤ h10.size := (by rw [W10.size]; exact sz7)
  have V10 : Arv Z h10 q2 kb .byte (3 : Int32) [(.int (nar .byte (c0.toInt8.toInt32))), (.int (nar .byte (c1.toInt8.toInt32))), (.int (nar .byte (c2.toInt8.toInt32)))] (.int (0 : Int32)) := Arv.set Ar10 qk10 Sz10 Mn10 Hv10 Gf10 (fits_nar_byte _) W10 2 rfl (Nat.le_of_ble_eq_true rfl)
  refine OwnW.iinc (pc' := 35) (L' := #[.val (.ref q0), .val (.int (3 : Int32)), .val (.ref q2), .val (.int (2 : Int32)), .val (.int (3 : Int32)), .val (.int (2 : Int32)), .val (.int c2)]) (d := (1 : Int32)) d5_32 rfl rfl rfl rfl ?_
  refine OwnW.iinc (pc' := 38) (L' := #[.val (.ref q0), .val (.int (3 : Int32)), .val (.ref q2), .val (.int (3 : Int32)), .val (.int (3 : Int32)), .val (.int (2 : Int32)), .val (.int c2)]) (d := (1 : Int32)) d5_35 rfl rfl rfl rfl ?_
  refine OwnW.iinc (pc' := 41) (L' := #[.val (.ref q0), .val (.int (3 : Int32)), .val (.ref q2), .val (.int (3 : Int32)), .val (.int (3 : Int32)), .val (.int (3 : Int32)), .val (.int c2)]) (d := (1 : Int32)) d5_38 rfl rfl rfl rfl ?_
  refine OwnW.goto (pc' := 3) d5_41 (by decide) (by decide) ?_
  refine OwnW.iload (pc' := 5) d5_3 rfl rfl ?_
  refine OwnW.iload (pc' := 7) d5_5 rfl rfl ?_
  refine OwnW.icmpY (pc' := 44) d5_7 (flt (by decide)).2.1 (by decide) (by decide) ?_
  refine OwnW.iload (pc' := 46) d5_44 rfl rfl ?_
  exact OwnW.retI d5_46 rfl (by decide) (by decide) (⟨rfl, ((((Keep.refl h0 [q2]).wr W2 (Or.inl (List.mem_of_getElem? (i := 0) rfl))).wr W6 (Or.inl (List.mem_of_getElem? (i := 0) rfl))).wr W10 (Or.inl (List.mem_of_getElem? (i := 0) rfl))), V10⟩)
def Q4_3 (Z : State) (q0 : Addr) (kq : ClassId) (c0 : Int32) (c1 : Int32) (c2 : Int32) (h0 : Heap) (v : Option Value) (h : Heap) : Prop := ∃ (x0 : Addr) (k0 : ClassId), v = some (.ref x0) ∧ Keep h0 h [] ∧ h0.size ≤ x0 ∧ Arv Z h x0 k0 .byte (3 : Int32) [(.int (nar .byte (c0.toInt8.toInt32))), (.int (nar .byte (c1.toInt8.toInt32))), (.int (nar .byte (c2.toInt8.toInt32)))] (.int (0 : Int32))
abbrev GoB4_3 (l : Launch) (Z : State) (n0 : Nat) (Q : Option Value → Heap → Prop) := Go l Z ({ frames := 1, cells := 1, slots := 3, locals := 18 } : Room) (⟨"java/lang/StringUTF16", "compress", "([CII)[B"⟩ : MethodName) jdk_52_method_16_code 6 (some (.array .byte)) n0 Q
theorem ef4_3 (m : MethodId) (q0 : Addr) : entryFrame m #[(.ref q0), (.int (0 : Int32)), (.int (3 : Int32))] 6 = mkF m 0 #[.val (.ref q0), .val (.int (0 : Int32)), .val (.int (3 : Int32)), .unset, .unset, .unset] [] := by first | (simp [entryFrame, mkF, argsToLocals, Value.category]; done) | rfl
set_option maxRecDepth 65536 in
set_option maxHeartbeats 40000000 in
theorem rm4_3 (l : Launch) (Z : State) (a0 : Array Value) (hw : ∀ d ∈ tables_1, d.before a0 Z = true) (q0 : Addr) (kq : ClassId) (c0 : Int32) (c1 : Int32) (c2 : Int32) (h0 : Heap) (n0 : Nat) (Z0 : n0 ≤ h0.size) (V_q0 : Arv Z h0 q0 kq .char (3 : Int32) [(.int c0), (.int c1), (.int c2)] (.int (0 : Int32))) (le0 : ¬ (255 : Int32) < c0) (le1 : ¬ (255 : Int32) < c1) (le2 : ¬ (255 : Int32) < c2) :
    Con l Z ({ frames := 1, cells := 1, slots := 3, locals := 18 } : Room) (⟨"java/lang/StringUTF16", "compress", "([CII)[B"⟩ : MethodName) jdk_52_method_16_code 6 (some (.array .byte)) n0 #[(.ref q0), (.int (0 : Int32)), (.int (3 : Int32))] h0 (Q4_3 Z q0 kq c0 c1 c2 h0) := by
  refine OwnW.Con.of (by first | decide +kernel | exact plainFor_of_name (by simp [plainName, overriddenIn])) (fun m => ef4_3 m q0) ?_
  show GoB4_3 l Z n0 (Q4_3 Z q0 kq c0 c1 c2 h0) h0 0 0 0 #[.val (.ref q0), .val (.int (0 : Int32)), .val (.int (3 : Int32)), .unset, .unset, .unset] []
  refine OwnW.iloadN (pc' := 1) d4_0 rfl rfl ?_
  refine OwnW.newP (a0 := a0) (pc' := 3) (cap := 3) (k' := 1) (n' := 3) d4_1 (hw _ (List.mem_of_getElem? (i := 23) rfl)) (by decide) (by decide) (by decide) rfl rfl (by decide) (by decide) rfl ?_
  intro h1 kc1 ad1 g1 E1 A1
  have lt_q0_ad1 : q0 < ad1 := Nat.lt_of_lt_of_le (V_q0).lt (Nat.le_of_eq g1.symm)
  have ge_ad1 : n0 ≤ ad1 := Nat.le_trans Z0 (Nat.le_of_eq g1.symm)
  have sz_ad1 : n0 ≤ h1.size := Nat.le_trans Z0 E1.1
  have V1 : Arv Z h1 ad1 kc1 .byte (3 : Int32) [(.int (0 : Int32)), (.int (0 : Int32)), (.int (0 : Int32))] (.int (0 : Int32)) := (Arv.new A1 (by decide)).pad (pad_rep [] _ 3)
  refine OwnW.astoreN (pc' := 4) (L' := #[.val (.ref q0), .val (.int (0 : Int32)), .val (.int (3 : Int32)), .val (.ref ad1), .unset, .unset]) d4_3 (rfl) rfl rfl ?_
  refine OwnW.aloadN (pc' := 5) d4_4 rfl (rfl) rfl ?_
  refine OwnW.iloadN (pc' := 6) d4_5 rfl rfl ?_
  refine OwnW.aloadN (pc' := 7) d4_6 rfl (rfl) rfl ?_
  refine OwnW.iconst (pc' := 8) (v := (0 : Int32)) d4_7 rfl rfl ?_
  refine OwnW.iloadN (pc' := 9) d4_8 rfl rfl ?_
  have F2 := (V_q0.ext E1)
  refine OwnW.callS (a0 := a0) (pc' := 12) (W := 0) (k' := 1) (n' := 3) (argsL := [(.ref q0), (.int (0 : Int32)), (.ref ad1), (.int (0 : Int32)), (.int (3 : Int32))]) (rest := []) d4_9 (hw _ (List.mem_of_getElem? (i := 24) rfl)) (hw _ (List.mem_of_getElem? (i := 25) rfl)) (hw _ (List.mem_of_getElem? (i := 21) rfl)) (hw _ (List.mem_of_getElem? (i := 26) rfl)) (by decide) (rm5_3 l Z a0 hw q0 ad1 kq c0 c1 c2 kc1 h1 n0 sz_ad1 ge_ad1 F2 V1 le0 le1 le2 (Nat.ne_of_lt lt_q0_ad1)) (by decide) (by decide) rfl rfl (by decide) (by decide) rfl pd_285bCI5bBII29I rfl rfl rfl (Nat.le_of_ble_eq_true rfl) rfl ?_
  rintro h3 v3 ⟨rfl, K3, Fc3_0⟩
  have sz4 : n0 ≤ h3.size := Nat.le_trans sz_ad1 K3.1
  show GoB4_3 l Z n0 (Q4_3 Z q0 kq c0 c1 c2 h0) h3 1 3 12 #[.val (.ref q0), .val (.int (0 : Int32)), .val (.int (3 : Int32)), .val (.ref ad1), .unset, .unset] [(.int (3 : Int32))]
  refine OwnW.istore (pc' := 14) (L' := #[.val (.ref q0), .val (.int (0 : Int32)), .val (.int (3 : Int32)), .val (.ref ad1), .val (.int (3 : Int32)), .unset]) d4_12 rfl rfl ?_
  refine OwnW.iload (pc' := 16) d4_14 rfl rfl ?_
  refine OwnW.iloadN (pc' := 17) d4_16 rfl rfl ?_
  refine OwnW.icmpY (pc' := 57) d4_17 (teq (by decide)).1 (by decide) (by decide) ?_
  refine OwnW.aloadN (pc' := 58) d4_57 rfl (rfl) rfl ?_
  exact OwnW.retA d4_58 rfl rfl rfl (by decide) (by decide) (⟨ad1, kc1, rfl, (((Keep.refl h0 []).ext E1).trans K3 (allS (Or.inr (Nat.le_trans (Nat.le_refl _) (Nat.le_of_eq g1.symm))) all0)), (Nat.le_trans (Nat.le_refl _) (Nat.le_of_eq g1.symm)), Fc3_0⟩)
def f6_3 (q0 : Addr) (kb : ClassId) (c0 : Int32) (c1 : Int32) (c2 : Int32) : Int32 := (0 : Int32)
abbrev GoB6_3 (l : Launch) (Z : State) (n0 : Nat) (Q : Option Value → Heap → Prop) := Go l Z ({ frames := 0, cells := 0, slots := 0, locals := 0 } : Room) (⟨"java/lang/StringUTF16", "coderFromArrayLen", "([BI)B"⟩ : MethodName) jdk_52_method_15_code 2 (some .byte) n0 Q
theorem ef6_3 (m : MethodId) (q0 : Addr) : entryFrame m #[(.ref q0), (.int (3 : Int32))] 2 = mkF m 0 #[.val (.ref q0), .val (.int (3 : Int32))] [] := by first | (simp [entryFrame, mkF, argsToLocals, Value.category]; done) | rfl
set_option maxRecDepth 65536 in
set_option maxHeartbeats 40000000 in
theorem rm6_3 (l : Launch) (Z : State) (a0 : Array Value) (hw : ∀ d ∈ tables_1, d.before a0 Z = true) (q0 : Addr) (kb : ClassId) (c0 : Int32) (c1 : Int32) (c2 : Int32) (h0 : Heap) (n0 : Nat) (V_a : Arv Z h0 q0 kb .byte (3 : Int32) [(.int c0), (.int c1), (.int c2)] (.int (0 : Int32))) :
    Con l Z ({ frames := 0, cells := 0, slots := 0, locals := 0 } : Room) (⟨"java/lang/StringUTF16", "coderFromArrayLen", "([BI)B"⟩ : MethodName) jdk_52_method_15_code 2 (some .byte) n0 #[(.ref q0), (.int (3 : Int32))] h0 (OwnW.Ret (some (.int (f6_3 q0 kb c0 c1 c2))) h0) := by
  refine OwnW.Con.of (by first | decide +kernel | exact plainFor_of_name (by simp [plainName, overriddenIn])) (fun m => ef6_3 m q0) ?_
  show GoB6_3 l Z n0 (OwnW.Ret (some (.int (f6_3 q0 kb c0 c1 c2))) h0) h0 0 0 0 #[.val (.ref q0), .val (.int (3 : Int32))] []
  refine OwnW.iloadN (pc' := 1) d6_0 rfl rfl ?_
  refine OwnW.aloadN (pc' := 2) d6_1 rfl (rfl) rfl ?_
  obtain ⟨cl1, Ar1, qk1, Sz1, Mn1, Hv1, Gf1⟩ := id V_a
  refine OwnW.alen (pc' := 3) (x := (3 : Int32)) d6_2 Ar1 (len_of Sz1 Mn1) rfl ?_
  refine OwnW.isub (pc' := 4) d6_3 rfl ?_
  show GoB6_3 l Z n0 (OwnW.Ret (some (.int (f6_3 q0 kb c0 c1 c2))) h0) h0 0 0 4 #[.val (.ref q0), .val (.int (3 : Int32))] [(.int (0 : Int32))]
  refine OwnW.bipush (pc' := 6) (v := (31 : Int32)) d6_4 rfl rfl ?_
  refine OwnW.iushr (pc' := 7) d6_6 rfl ?_
  show GoB6_3 l Z n0 (OwnW.Ret (some (.int (f6_3 q0 kb c0 c1 c2))) h0) h0 0 0 7 #[.val (.ref q0), .val (.int (3 : Int32))] [(.int (0 : Int32))]
  refine OwnW.i2b (pc' := 8) d6_7 rfl ?_
  show GoB6_3 l Z n0 (OwnW.Ret (some (.int (f6_3 q0 kb c0 c1 c2))) h0) h0 0 0 8 #[.val (.ref q0), .val (.int (3 : Int32))] [(.int (0 : Int32))]
  exact OwnW.retN (t := .byte) d6_8 rfl (by simp) rfl (by decide) (by decide) (⟨by first | (simp only [f6_3]; done) | (simp only [f6_3]; rfl), rfl⟩)
def Q2_3 (Z : State) (o : Addr) (q0 : Addr) (kq : ClassId) (c0 : Int32) (c1 : Int32) (c2 : Int32) (cs : Int32) (h0 : Heap) (v : Option Value) (h : Heap) : Prop := v = none ∧ Keep h0 h [o]
abbrev GoB2_3 (l : Launch) (Z : State) (n0 : Nat) (Q : Option Value → Heap → Prop) := Go l Z ({ frames := 2, cells := 1, slots := 3, locals := 35 } : Room) (⟨"java/lang/String", "<init>", "([CIILjava/lang/Void;)V"⟩ : MethodName) jdk_42_method_149_code 6 none n0 Q
theorem ef2_3 (m : MethodId) (o : Addr) (q0 : Addr) : entryFrame m #[(.ref o), (.ref q0), (.int (0 : Int32)), (.int (3 : Int32)), .null] 6 = mkF m 0 #[.val (.ref o), .val (.ref q0), .val (.int (0 : Int32)), .val (.int (3 : Int32)), .val .null, .unset] [] := by first | (simp [entryFrame, mkF, argsToLocals, Value.category]; done) | rfl
set_option maxRecDepth 65536 in
set_option maxHeartbeats 40000000 in
theorem rm2_3 (l : Launch) (Z : State) (a0 : Array Value) (hw : ∀ d ∈ tables_1, d.before a0 Z = true) (o : Addr) (q0 : Addr) (kq : ClassId) (c0 : Int32) (c1 : Int32) (c2 : Int32) (cs : Int32) (h0 : Heap) (n0 : Nat) (Z0 : n0 ≤ h0.size) (g_o : n0 ≤ o) (E_o : Exa Z h0 o "java/lang/String") (F_value : Fld Z h0 o "java/lang/String" "value" "[B" .null) (F_coder : Fld Z h0 o "java/lang/String" "coder" "B" (.int (0 : Int32))) (V_q0 : Arv Z h0 q0 kq .char (3 : Int32) [(.int c0), (.int c1), (.int c2)] (.int (0 : Int32))) (S_cs : Sta Z h0 "java/lang/String" "COMPACT_STRINGS" "Z" (.int cs)) (le0 : ¬ (255 : Int32) < c0) (le1 : ¬ (255 : Int32) < c1) (le2 : ¬ (255 : Int32) < c2) (hcs : ¬ cs = (0 : Int32)) :
    Con l Z ({ frames := 2, cells := 1, slots := 3, locals := 35 } : Room) (⟨"java/lang/String", "<init>", "([CIILjava/lang/Void;)V"⟩ : MethodName) jdk_42_method_149_code 6 none n0 #[(.ref o), (.ref q0), (.int (0 : Int32)), (.int (3 : Int32)), .null] h0 (Q2_3 Z o q0 kq c0 c1 c2 cs h0) := by
  refine OwnW.Con.of (by first | decide +kernel | exact plainFor_of_name (by simp [plainName, overriddenIn])) (fun m => ef2_3 m o q0) ?_
  show GoB2_3 l Z n0 (Q2_3 Z o q0 kq c0 c1 c2 cs h0) h0 0 0 0 #[.val (.ref o), .val (.ref q0), .val (.int (0 : Int32)), .val (.int (3 : Int32)), .val .null, .unset] []
  refine OwnW.aloadN (pc' := 1) d2_0 rfl (rfl) rfl ?_
  refine OwnW.initO (a0 := a0) (pc' := 4) (W := 0) d2_1 (hw _ (List.mem_of_getElem? (i := 15) rfl)) (hw _ (List.mem_of_getElem? (i := 16) rfl)) (hw _ (List.mem_of_getElem? (i := 17) rfl)) rfl (by decide) (Nat.le_of_ble_eq_true rfl) (by decide) rfl ?_
  refine OwnW.iloadN (pc' := 5) d2_4 rfl rfl ?_
  refine OwnW.ifcY (pc' := 27) d2_5 ((if0 _ _).trans (feq (by decide)).2) (by decide) (by decide) ?_
  refine OwnW.getS (a0 := a0) (pc' := 30) d2_27 (host := "") (Or.inl (hw _ (List.mem_of_getElem? (i := 18) rfl))) Via.refl S_cs rfl ?_
  refine OwnW.ifcN (pc' := 33) d2_30 ((if0 _ _).trans (feq hcs).1) rfl ?_
  refine OwnW.aloadN (pc' := 34) d2_33 rfl (rfl) rfl ?_
  refine OwnW.iloadN (pc' := 35) d2_34 rfl rfl ?_
  refine OwnW.iloadN (pc' := 36) d2_35 rfl rfl ?_
  refine OwnW.callS (a0 := a0) (pc' := 39) (W := 0) (k' := 1) (n' := 3) (argsL := [(.ref q0), (.int (0 : Int32)), (.int (3 : Int32))]) (rest := []) d2_36 (hw _ (List.mem_of_getElem? (i := 19) rfl)) (hw _ (List.mem_of_getElem? (i := 20) rfl)) (hw _ (List.mem_of_getElem? (i := 21) rfl)) (hw _ (List.mem_of_getElem? (i := 22) rfl)) (by decide) (rm4_3 l Z a0 hw q0 kq c0 c1 c2 h0 n0 Z0 V_q0 le0 le1 le2) (by decide) (by decide) rfl rfl (by decide) (by decide) rfl pd_285bCII295bB rfl rfl rfl (Nat.le_of_ble_eq_true rfl) rfl ?_
  rintro h1 v1 ⟨ad1_0, kc1_0, rfl, K1, gl1_0, Fc1_0⟩
  have lt_o_ad1_0 : o < ad1_0 := Nat.lt_of_lt_of_le (E_o).lt gl1_0
  have lt_q0_ad1_0 : q0 < ad1_0 := Nat.lt_of_lt_of_le (V_q0).lt gl1_0
  have ge_ad1_0 : n0 ≤ ad1_0 := Nat.le_trans Z0 gl1_0
  have S2 := OwnW.sta_keep S_cs K1 all0
  have sz3 : n0 ≤ h1.size := Nat.le_trans Z0 K1.1
  show GoB2_3 l Z n0 (Q2_3 Z o q0 kq c0 c1 c2 cs h0) h1 1 3 39 #[.val (.ref o), .val (.ref q0), .val (.int (0 : Int32)), .val (.int (3 : Int32)), .val .null, .unset] [(.ref ad1_0)]
  refine OwnW.astore (pc' := 41) (L' := #[.val (.ref o), .val (.ref q0), .val (.int (0 : Int32)), .val (.int (3 : Int32)), .val .null, .val (.ref ad1_0)]) d2_39 (rfl) rfl rfl ?_
  refine OwnW.aloadN (pc' := 42) d2_41 rfl (rfl) rfl ?_
  refine OwnW.aload (pc' := 44) d2_42 rfl (rfl) rfl ?_
  refine OwnW.iloadN (pc' := 45) d2_44 rfl rfl ?_
  refine OwnW.callS0 (a0 := a0) (pc' := 48) (W := 1) (k' := 1) (n' := 3) (argsL := [(.ref ad1_0), (.int (3 : Int32))]) (rest := [(.ref o)]) (St' := [(.int (f6_3 ad1_0 kc1_0 (nar .byte (c0.toInt8.toInt32)) (nar .byte (c1.toInt8.toInt32)) (nar .byte (c2.toInt8.toInt32)))), (.ref o)]) d2_45 (hw _ (List.mem_of_getElem? (i := 27) rfl)) (hw _ (List.mem_of_getElem? (i := 28) rfl)) (hw _ (List.mem_of_getElem? (i := 21) rfl)) (hw _ (List.mem_of_getElem? (i := 29) rfl)) (by decide) (rm6_3 l Z a0 hw ad1_0 kc1_0 (nar .byte (c0.toInt8.toInt32)) (nar .byte (c1.toInt8.toInt32)) (nar .byte (c2.toInt8.toInt32)) h1 n0 Fc1_0) (by decide) (by decide) rfl rfl (by decide) (by decide) rfl pd_285bBI29B rfl rfl rfl (Nat.le_of_ble_eq_true rfl) rfl rfl ?_
  rw [show (f6_3 ad1_0 kc1_0 (nar .byte (c0.toInt8.toInt32)) (nar .byte (c1.toInt8.toInt32)) (nar .byte (c2.toInt8.toInt32))) = (0 : Int32) from rfl]
  show GoB2_3 l Z n0 (Q2_3 Z o q0 kq c0 c1 c2 cs h0) h1 1 3 48 #[.val (.ref o), .val (.ref q0), .val (.int (0 : Int32)), .val (.int (3 : Int32)), .val .null, .val (.ref ad1_0)] [(.int (0 : Int32)), (.ref o)]
  have F5 := (F_coder.keep K1 nin0)
  have F6 := (E_o.keep K1)
  refine OwnW.putFN (a0 := a0) (pc' := 51) (v' := (.int (0 : Int32))) d2_48 (hw _ (List.mem_of_getElem? (i := 30) rfl)) Via.refl F5 F6 (Or.inr ⟨(hw _ (List.mem_of_getElem? (i := 31) rfl)), rfl, rfl⟩) (hw _ (List.mem_of_getElem? (i := 6) rfl)) (ty := .byte) (by decide) rfl (by decide) g_o rfl ?_
  intro h4 W4
  have sz7 : n0 ≤ h4.size := (by rw [W4.size]; exact sz3)
  have F8 := F5.same W4
  refine OwnW.aloadN (pc' := 52) d2_51 rfl (rfl) rfl ?_
  refine OwnW.aload (pc' := 54) d2_52 rfl (rfl) rfl ?_
  have F10 := ((F_value.keep K1 nin0).other W4 (Or.inr (slot_ne (a0 := a0) (C := "java/lang/String") (Or.inr (hw _ (List.mem_of_getElem? (i := 33) rfl))) (Or.inr (hw _ (List.mem_of_getElem? (i := 31) rfl))) (by decide) (t := (.array .byte)) (t' := .byte) (by decide) (by decide))))
  have F11 := (F6.wr W4)
  refine OwnW.putF (a0 := a0) (pc' := 57) d2_54 (host := "") (Or.inl (hw _ (List.mem_of_getElem? (i := 32) rfl))) Via.refl F10 F11 (Or.inr ⟨(hw _ (List.mem_of_getElem? (i := 33) rfl)), rfl, rfl⟩) (hw _ (List.mem_of_getElem? (i := 6) rfl)) (ty := (.array .byte)) (by decide) rfl rfl g_o rfl ?_
  intro h9 W9
  have sz12 : n0 ≤ h9.size := (by rw [W9.size]; exact sz7)
  have F13 := F10.same W9
  exact OwnW.ret0 d2_57 rfl (by decide) (by decide) (⟨rfl, ((((Keep.refl h0 [o]).trans K1 all0).wr W4 (Or.inl (List.mem_of_getElem? (i := 0) rfl))).wr W9 (Or.inl (List.mem_of_getElem? (i := 0) rfl)))⟩)
def Q1_3 (Z : State) (o : Addr) (q0 : Addr) (kq : ClassId) (c0 : Int32) (c1 : Int32) (c2 : Int32) (cs : Int32) (h0 : Heap) (v : Option Value) (h : Heap) : Prop := v = none ∧ Keep h0 h [o]
abbrev GoB1_3 (l : Launch) (Z : State) (n0 : Nat) (Q : Option Value → Heap → Prop) := Go l Z ({ frames := 3, cells := 1, slots := 3, locals := 52 } : Room) (⟨"java/lang/String", "<init>", "([C)V"⟩ : MethodName) jdk_42_method_3_code 2 none n0 Q
theorem ef1_3 (m : MethodId) (o : Addr) (q0 : Addr) : entryFrame m #[(.ref o), (.ref q0)] 2 = mkF m 0 #[.val (.ref o), .val (.ref q0)] [] := by first | (simp [entryFrame, mkF, argsToLocals, Value.category]; done) | rfl
set_option maxRecDepth 65536 in
set_option maxHeartbeats 40000000 in
theorem rm1_3 (l : Launch) (Z : State) (a0 : Array Value) (hw : ∀ d ∈ tables_1, d.before a0 Z = true) (o : Addr) (q0 : Addr) (kq : ClassId) (c0 : Int32) (c1 : Int32) (c2 : Int32) (cs : Int32) (h0 : Heap) (n0 : Nat) (Z0 : n0 ≤ h0.size) (g_o : n0 ≤ o) (E_o : Exa Z h0 o "java/lang/String") (F_value : Fld Z h0 o "java/lang/String" "value" "[B" .null) (F_coder : Fld Z h0 o "java/lang/String" "coder" "B" (.int (0 : Int32))) (V_q0 : Arv Z h0 q0 kq .char (3 : Int32) [(.int c0), (.int c1), (.int c2)] (.int (0 : Int32))) (S_cs : Sta Z h0 "java/lang/String" "COMPACT_STRINGS" "Z" (.int cs)) (le0 : ¬ (255 : Int32) < c0) (le1 : ¬ (255 : Int32) < c1) (le2 : ¬ (255 : Int32) < c2) (hcs : ¬ cs = (0 : Int32)) :
    Con l Z ({ frames := 3, cells := 1, slots := 3, locals := 52 } : Room) (⟨"java/lang/String", "<init>", "([C)V"⟩ : MethodName) jdk_42_method_3_code 2 none n0 #[(.ref o), (.ref q0)] h0 (Q1_3 Z o q0 kq c0 c1 c2 cs h0) := by
  refine OwnW.Con.of (by first | decide +kernel | exact plainFor_of_name (by simp [plainName, overriddenIn])) (fun m => ef1_3 m o q0) ?_
  show GoB1_3 l Z n0 (Q1_3 Z o q0 kq c0 c1 c2 cs h0) h0 0 0 0 #[.val (.ref o), .val (.ref q0)] []
  refine OwnW.aloadN (pc' := 1) d1_0 rfl (rfl) rfl ?_
  refine OwnW.aloadN (pc' := 2) d1_1 rfl (rfl) rfl ?_
  refine OwnW.iconst (pc' := 3) (v := (0 : Int32)) d1_2 rfl rfl ?_
  refine OwnW.aloadN (pc' := 4) d1_3 rfl (rfl) rfl ?_
  obtain ⟨cl1, Ar1, qk1, Sz1, Mn1, Hv1, Gf1⟩ := id V_q0
  refine OwnW.alen (pc' := 5) (x := (3 : Int32)) d1_4 Ar1 (len_of Sz1 Mn1) rfl ?_
  refine OwnW.aconstNull (pc' := 6) d1_5 rfl ?_
  refine OwnW.callI (a0 := a0) (pc' := 9) (W := 0) (k' := 1) (n' := 3) (argsL := [(.ref q0), (.int (0 : Int32)), (.int (3 : Int32)), .null]) (rest := []) d1_6 rfl (hw _ (List.mem_of_getElem? (i := 11) rfl)) (hw _ (List.mem_of_getElem? (i := 12) rfl)) (hw _ (List.mem_of_getElem? (i := 7) rfl)) (hw _ (List.mem_of_getElem? (i := 14) rfl)) (by decide) (rm2_3 l Z a0 hw o q0 kq c0 c1 c2 cs h0 n0 Z0 g_o E_o F_value F_coder V_q0 S_cs le0 le1 le2 hcs) (by decide) (by decide) rfl rfl (by decide) (by decide) rfl pd_285bCIILjava2flang2fVoid3b29V rfl rfl rfl (Nat.le_of_ble_eq_true rfl) rfl ?_
  rintro h2 v2 ⟨rfl, K2⟩
  have S3 := OwnW.sta_keep S_cs K2 (allS (OwnW.exa_ns E_o) all0)
  have sz4 : n0 ≤ h2.size := Nat.le_trans Z0 K2.1
  show GoB1_3 l Z n0 (Q1_3 Z o q0 kq c0 c1 c2 cs h0) h2 1 3 9 #[.val (.ref o), .val (.ref q0)] []
  exact OwnW.ret0 d1_9 rfl (by decide) (by decide) (⟨rfl, ((Keep.refl h0 [o]).trans K2 (allS (Or.inl (List.mem_of_getElem? (i := 0) rfl)) all0))⟩)
theorem d8_0 : decode jdk_43_method_3_code 0 = .ok (.iload_n 0, 1) := by decide +kernel
theorem d8_1 : decode jdk_43_method_3_code 1 = .ok (.sipush 255, 3) := by decide +kernel
theorem d8_4 : decode jdk_43_method_3_code 4 = .ok (.if_icmp .gt 7, 3) := by decide +kernel
theorem d8_7 : decode jdk_43_method_3_code 7 = .ok (.iconst 1, 1) := by decide +kernel
theorem d8_8 : decode jdk_43_method_3_code 8 = .ok (.goto 4, 3) := by decide +kernel
theorem d8_11 : decode jdk_43_method_3_code 11 = .ok (.iconst 0, 1) := by decide +kernel
theorem d8_12 : decode jdk_43_method_3_code 12 = .ok (.ireturn, 1) := by decide +kernel
def f8 (q0 : Int32) : Int32 := (if (255 : Int32) < q0 then (0 : Int32) else (1 : Int32))
abbrev GoB8 (l : Launch) (Z : State) (n0 : Nat) (Q : Option Value → Heap → Prop) := Go l Z ({ frames := 0, cells := 0, slots := 0, locals := 0 } : Room) (⟨"java/lang/StringLatin1", "canEncode", "(C)Z"⟩ : MethodName) jdk_43_method_3_code 1 (some .boolean) n0 Q
theorem ef8 (m : MethodId) (q0 : Int32) : entryFrame m #[(.int q0)] 1 = mkF m 0 #[.val (.int q0)] [] := by first | (simp [entryFrame, mkF, argsToLocals, Value.category]; done) | rfl
set_option maxRecDepth 65536 in
set_option maxHeartbeats 40000000 in
theorem rm8 (l : Launch) (Z : State) (a0 : Array Value) (hw : ∀ d ∈ tables_1, d.before a0 Z = true) (q0 : Int32) (h0 : Heap) (n0 : Nat) :
    Con l Z ({ frames := 0, cells := 0, slots := 0, locals := 0 } : Room) (⟨"java/lang/StringLatin1", "canEncode", "(C)Z"⟩ : MethodName) jdk_43_method_3_code 1 (some .boolean) n0 #[(.int q0)] h0 (OwnW.Ret (some (.int (f8 q0))) h0) := by
  refine OwnW.Con.of (by first | decide +kernel | exact plainFor_of_name (by simp [plainName, overriddenIn])) (fun m => ef8 m q0) ?_
  show GoB8 l Z n0 (OwnW.Ret (some (.int (f8 q0))) h0) h0 0 0 0 #[.val (.int q0)] []
  refine OwnW.iloadN (pc' := 1) d8_0 rfl rfl ?_
  refine OwnW.sipush (pc' := 4) (v := (255 : Int32)) d8_1 rfl rfl ?_
  by_cases hc4 : (255 : Int32) < q0
  ·
    refine OwnW.icmpY (pc' := 11) d8_4 (tlt hc4).2.2.1 (by decide) (by decide) ?_
    refine OwnW.iconst (pc' := 12) (v := (0 : Int32)) d8_11 rfl rfl ?_
    exact OwnW.retN (t := .boolean) d8_12 rfl (by simp) rfl (by decide) (by decide) (⟨by first | (simp only [f8, if_pos hc4]; done) | (simp only [f8, if_pos hc4]; rfl), rfl⟩)
  ·
    refine OwnW.icmpN (pc' := 7) d8_4 (flt hc4).2.2.1 rfl ?_
    refine OwnW.iconst (pc' := 8) (v := (1 : Int32)) d8_7 rfl rfl ?_
    refine OwnW.goto (pc' := 12) d8_8 (by decide) (by decide) ?_
    exact OwnW.retN (t := .boolean) d8_12 rfl (by simp) rfl (by decide) (by decide) (⟨by first | (simp only [f8, if_neg hc4]; done) | (simp only [f8, if_neg hc4]; rfl), rfl⟩)
theorem d9_0 : decode jdk_43_method_46_code 0 = .ok (.iconst 1, 1) := by decide +kernel
theorem d9_1 : decode jdk_43_method_46_code 1 = .ok (.newarray .byte, 2) := by decide +kernel
theorem d9_3 : decode jdk_43_method_46_code 3 = .ok (.dup, 1) := by decide +kernel
theorem d9_4 : decode jdk_43_method_46_code 4 = .ok (.iconst 0, 1) := by decide +kernel
theorem d9_5 : decode jdk_43_method_46_code 5 = .ok (.iload_n 0, 1) := by decide +kernel
theorem d9_6 : decode jdk_43_method_46_code 6 = .ok (.i2b, 1) := by decide +kernel
theorem d9_7 : decode jdk_43_method_46_code 7 = .ok (.bastore, 1) := by decide +kernel
theorem d9_8 : decode jdk_43_method_46_code 8 = .ok (.areturn, 1) := by decide +kernel
def Q9 (Z : State) (q0 : Int32) (h0 : Heap) (v : Option Value) (h : Heap) : Prop := ∃ (x0 : Addr) (k0 : ClassId), v = some (.ref x0) ∧ Keep h0 h [] ∧ h0.size ≤ x0 ∧ Arv Z h x0 k0 .byte (1 : Int32) [(.int (nar .byte (q0.toInt8.toInt32)))] (.int (0 : Int32))
abbrev GoB9 (l : Launch) (Z : State) (n0 : Nat) (Q : Option Value → Heap → Prop) := Go l Z ({ frames := 0, cells := 1, slots := 1, locals := 0 } : Room) (⟨"java/lang/StringLatin1", "toBytes", "(C)[B"⟩ : MethodName) jdk_43_method_46_code 1 (some (.array .byte)) n0 Q
theorem ef9 (m : MethodId) (q0 : Int32) : entryFrame m #[(.int q0)] 1 = mkF m 0 #[.val (.int q0)] [] := by first | (simp [entryFrame, mkF, argsToLocals, Value.category]; done) | rfl
set_option maxRecDepth 65536 in
set_option maxHeartbeats 40000000 in
theorem rm9 (l : Launch) (Z : State) (a0 : Array Value) (hw : ∀ d ∈ tables_1, d.before a0 Z = true) (q0 : Int32) (h0 : Heap) (n0 : Nat) (Z0 : n0 ≤ h0.size) :
    Con l Z ({ frames := 0, cells := 1, slots := 1, locals := 0 } : Room) (⟨"java/lang/StringLatin1", "toBytes", "(C)[B"⟩ : MethodName) jdk_43_method_46_code 1 (some (.array .byte)) n0 #[(.int q0)] h0 (Q9 Z q0 h0) := by
  refine OwnW.Con.of (by first | decide +kernel | exact plainFor_of_name (by simp [plainName, overriddenIn])) (fun m => ef9 m q0) ?_
  show GoB9 l Z n0 (Q9 Z q0 h0) h0 0 0 0 #[.val (.int q0)] []
  refine OwnW.iconst (pc' := 1) (v := (1 : Int32)) d9_0 rfl rfl ?_
  refine OwnW.newP (a0 := a0) (pc' := 3) (cap := 1) (k' := 1) (n' := 1) d9_1 (hw _ (List.mem_of_getElem? (i := 23) rfl)) (by decide) (by decide) (by decide) rfl rfl (by decide) (by decide) rfl ?_
  intro h1 kc1 ad1 g1 E1 A1
  have ge_ad1 : n0 ≤ ad1 := Nat.le_trans Z0 (Nat.le_of_eq g1.symm)
  have sz_ad1 : n0 ≤ h1.size := Nat.le_trans Z0 E1.1
  have V1 : Arv Z h1 ad1 kc1 .byte (1 : Int32) [(.int (0 : Int32))] (.int (0 : Int32)) := (Arv.new A1 (by decide)).pad (pad_rep [] _ 1)
  refine OwnW.dup (pc' := 4) d9_3 rfl rfl ?_
  refine OwnW.iconst (pc' := 5) (v := (0 : Int32)) d9_4 rfl rfl ?_
  refine OwnW.iloadN (pc' := 6) d9_5 rfl rfl ?_
  refine OwnW.i2b (pc' := 7) d9_6 rfl ?_
  obtain ⟨cl2, Ar2, qk2, Sz2, Mn2, Hv2, Gf2⟩ := id V1
  refine OwnW.stB (pc' := 8) d9_7 Ar2 (inb_of Sz2 ⟨by decide, by decide⟩) ge_ad1 rfl ?_
  intro h2 W2
  have sz3 : n0 ≤ h2.size := (by rw [W2.size]; exact sz_ad1)
  have V2 : Arv Z h2 ad1 kc1 .byte (1 : Int32) [(.int (nar .byte (q0.toInt8.toInt32)))] (.int (0 : Int32)) := Arv.set Ar2 qk2 Sz2 Mn2 Hv2 Gf2 (fits_nar_byte _) W2 0 rfl (Nat.le_of_ble_eq_true rfl)
  exact OwnW.retA d9_8 rfl rfl rfl (by decide) (by decide) (⟨ad1, kc1, rfl, (((Keep.refl h0 []).ext E1).wr W2 (Or.inr (Nat.le_trans (Nat.le_refl _) (Nat.le_of_eq g1.symm)))), (Nat.le_trans (Nat.le_refl _) (Nat.le_of_eq g1.symm)), V2⟩)
theorem d10_0 : decode jdk_42_method_151_code 0 = .ok (.aload_n 0, 1) := by decide +kernel
theorem d10_1 : decode jdk_42_method_151_code 1 = .ok (.invokespecial 1, 3) := by decide +kernel
theorem d10_4 : decode jdk_42_method_151_code 4 = .ok (.aload_n 0, 1) := by decide +kernel
theorem d10_5 : decode jdk_42_method_151_code 5 = .ok (.aload_n 1, 1) := by decide +kernel
theorem d10_6 : decode jdk_42_method_151_code 6 = .ok (.putfield 9, 3) := by decide +kernel
theorem d10_9 : decode jdk_42_method_151_code 9 = .ok (.aload_n 0, 1) := by decide +kernel
theorem d10_10 : decode jdk_42_method_151_code 10 = .ok (.iload_n 2, 1) := by decide +kernel
theorem d10_11 : decode jdk_42_method_151_code 11 = .ok (.putfield 15, 3) := by decide +kernel
theorem d10_14 : decode jdk_42_method_151_code 14 = .ok (.return_, 1) := by decide +kernel
def Q10 (Z : State) (o : Addr) (q0 : Addr) (h0 : Heap) (v : Option Value) (h : Heap) : Prop := v = none ∧ Keep h0 h [o]
abbrev GoB10 (l : Launch) (Z : State) (n0 : Nat) (Q : Option Value → Heap → Prop) := Go l Z ({ frames := 1, cells := 0, slots := 0, locals := 12 } : Room) (⟨"java/lang/String", "<init>", "([BB)V"⟩ : MethodName) jdk_42_method_151_code 3 none n0 Q
theorem ef10 (m : MethodId) (o : Addr) (q0 : Addr) : entryFrame m #[(.ref o), (.ref q0), (.int (0 : Int32))] 3 = mkF m 0 #[.val (.ref o), .val (.ref q0), .val (.int (0 : Int32))] [] := by first | (simp [entryFrame, mkF, argsToLocals, Value.category]; done) | rfl
set_option maxRecDepth 65536 in
set_option maxHeartbeats 40000000 in
theorem rm10 (l : Launch) (Z : State) (a0 : Array Value) (hw : ∀ d ∈ tables_1, d.before a0 Z = true) (o : Addr) (q0 : Addr) (h0 : Heap) (n0 : Nat) (Z0 : n0 ≤ h0.size) (g_o : n0 ≤ o) (E_o : Exa Z h0 o "java/lang/String") (F_value : Fld Z h0 o "java/lang/String" "value" "[B" .null) (F_coder : Fld Z h0 o "java/lang/String" "coder" "B" (.int (0 : Int32))) :
    Con l Z ({ frames := 1, cells := 0, slots := 0, locals := 12 } : Room) (⟨"java/lang/String", "<init>", "([BB)V"⟩ : MethodName) jdk_42_method_151_code 3 none n0 #[(.ref o), (.ref q0), (.int (0 : Int32))] h0 (Q10 Z o q0 h0) := by
  refine OwnW.Con.of (by first | decide +kernel | exact plainFor_of_name (by simp [plainName, overriddenIn])) (fun m => ef10 m o q0) ?_
  show GoB10 l Z n0 (Q10 Z o q0 h0) h0 0 0 0 #[.val (.ref o), .val (.ref q0), .val (.int (0 : Int32))] []
  refine OwnW.aloadN (pc' := 1) d10_0 rfl (rfl) rfl ?_
  refine OwnW.initO (a0 := a0) (pc' := 4) (W := 0) d10_1 (hw _ (List.mem_of_getElem? (i := 15) rfl)) (hw _ (List.mem_of_getElem? (i := 16) rfl)) (hw _ (List.mem_of_getElem? (i := 17) rfl)) rfl (by decide) (Nat.le_of_ble_eq_true rfl) (by decide) rfl ?_
  refine OwnW.aloadN (pc' := 5) d10_4 rfl (rfl) rfl ?_
  refine OwnW.aloadN (pc' := 6) d10_5 rfl (rfl) rfl ?_
  refine OwnW.putF (a0 := a0) (pc' := 9) d10_6 (host := "") (Or.inl (hw _ (List.mem_of_getElem? (i := 32) rfl))) Via.refl F_value E_o (Or.inr ⟨(hw _ (List.mem_of_getElem? (i := 33) rfl)), rfl, rfl⟩) (hw _ (List.mem_of_getElem? (i := 6) rfl)) (ty := (.array .byte)) (by decide) rfl rfl g_o rfl ?_
  intro h1 W1
  have sz2 : n0 ≤ h1.size := (by rw [W1.size]; exact Z0)
  have F3 := F_value.same W1
  refine OwnW.aloadN (pc' := 10) d10_9 rfl (rfl) rfl ?_
  refine OwnW.iloadN (pc' := 11) d10_10 rfl rfl ?_
  have F5 := (F_coder.other W1 (Or.inr (slot_ne (a0 := a0) (C := "java/lang/String") (Or.inr (hw _ (List.mem_of_getElem? (i := 31) rfl))) (Or.inr (hw _ (List.mem_of_getElem? (i := 33) rfl))) (by decide) (t := .byte) (t' := (.array .byte)) (by decide) (by decide))))
  have F6 := (E_o.wr W1)
  refine OwnW.putFN (a0 := a0) (pc' := 14) (v' := (.int (0 : Int32))) d10_11 (hw _ (List.mem_of_getElem? (i := 30) rfl)) Via.refl F5 F6 (Or.inr ⟨(hw _ (List.mem_of_getElem? (i := 31) rfl)), rfl, rfl⟩) (hw _ (List.mem_of_getElem? (i := 6) rfl)) (ty := .byte) (by decide) rfl (by decide) g_o rfl ?_
  intro h4 W4
  have sz7 : n0 ≤ h4.size := (by rw [W4.size]; exact sz2)
  have F8 := F5.same W4
  exact OwnW.ret0 d10_14 rfl (by decide) (by decide) (⟨rfl, (((Keep.refl h0 [o]).wr W1 (Or.inl (List.mem_of_getElem? (i := 0) rfl))).wr W4 (Or.inl (List.mem_of_getElem? (i := 0) rfl)))⟩)
theorem d7_0 : decode jdk_42_method_139_code 0 = .ok (.getstatic 38, 3) := by decide +kernel
theorem d7_3 : decode jdk_42_method_139_code 3 = .ok (.ifCond .eq 23, 3) := by decide +kernel
theorem d7_6 : decode jdk_42_method_139_code 6 = .ok (.iload_n 0, 1) := by decide +kernel
theorem d7_7 : decode jdk_42_method_139_code 7 = .ok (.invokestatic 1015, 3) := by decide +kernel
theorem d7_10 : decode jdk_42_method_139_code 10 = .ok (.ifCond .eq 16, 3) := by decide +kernel
theorem d7_13 : decode jdk_42_method_139_code 13 = .ok (.new 10, 3) := by decide +kernel
theorem d7_16 : decode jdk_42_method_139_code 16 = .ok (.dup, 1) := by decide +kernel
theorem d7_17 : decode jdk_42_method_139_code 17 = .ok (.iload_n 0, 1) := by decide +kernel
theorem d7_18 : decode jdk_42_method_139_code 18 = .ok (.invokestatic 1018, 3) := by decide +kernel
theorem d7_21 : decode jdk_42_method_139_code 21 = .ok (.iconst 0, 1) := by decide +kernel
theorem d7_22 : decode jdk_42_method_139_code 22 = .ok (.invokespecial 209, 3) := by decide +kernel
theorem d7_25 : decode jdk_42_method_139_code 25 = .ok (.areturn, 1) := by decide +kernel
def Q7 (Z : State) (q0 : Int32) (cs : Int32) (h0 : Heap) (v : Option Value) (h : Heap) : Prop := ∃ (x0 : Addr), v = some (.ref x0) ∧ Keep h0 h [] ∧ h0.size ≤ x0 ∧ Exa Z h x0 "java/lang/String"
abbrev GoB7 (l : Launch) (Z : State) (n0 : Nat) (Q : Option Value → Heap → Prop) := Go l Z ({ frames := 2, cells := 2, slots := 5, locals := 27 } : Room) (⟨"java/lang/String", "valueOf", "(C)Ljava/lang/String;"⟩ : MethodName) jdk_42_method_139_code 1 (some (.object "java/lang/String")) n0 Q
theorem ef7 (m : MethodId) (q0 : Int32) : entryFrame m #[(.int q0)] 1 = mkF m 0 #[.val (.int q0)] [] := by first | (simp [entryFrame, mkF, argsToLocals, Value.category]; done) | rfl
set_option maxRecDepth 65536 in
set_option maxHeartbeats 40000000 in
theorem rm7 (l : Launch) (Z : State) (a0 : Array Value) (hw : ∀ d ∈ tables_1, d.before a0 Z = true) (q0 : Int32) (cs : Int32) (h0 : Heap) (n0 : Nat) (Z0 : n0 ≤ h0.size) (S_cs : Sta Z h0 "java/lang/String" "COMPACT_STRINGS" "Z" (.int cs)) (le0 : ¬ (255 : Int32) < q0) (hcs : ¬ cs = (0 : Int32)) :
    Con l Z ({ frames := 2, cells := 2, slots := 5, locals := 27 } : Room) (⟨"java/lang/String", "valueOf", "(C)Ljava/lang/String;"⟩ : MethodName) jdk_42_method_139_code 1 (some (.object "java/lang/String")) n0 #[(.int q0)] h0 (Q7 Z q0 cs h0) := by
  refine OwnW.Con.of (by first | decide +kernel | exact plainFor_of_name (by simp [plainName, overriddenIn])) (fun m => ef7 m q0) ?_
  show GoB7 l Z n0 (Q7 Z q0 cs h0) h0 0 0 0 #[.val (.int q0)] []
  refine OwnW.getS (a0 := a0) (pc' := 3) d7_0 (host := "") (Or.inl (hw _ (List.mem_of_getElem? (i := 18) rfl))) Via.refl S_cs rfl ?_
  refine OwnW.ifcN (pc' := 6) d7_3 ((if0 _ _).trans (feq hcs).1) rfl ?_
  refine OwnW.iloadN (pc' := 7) d7_6 rfl rfl ?_
  refine OwnW.callS0 (a0 := a0) (pc' := 10) (W := 0) (k' := 0) (n' := 0) (argsL := [(.int q0)]) (rest := []) (St' := [(.int (f8 q0))]) d7_7 (hw _ (List.mem_of_getElem? (i := 37) rfl)) (hw _ (List.mem_of_getElem? (i := 38) rfl)) (hw _ (List.mem_of_getElem? (i := 39) rfl)) (hw _ (List.mem_of_getElem? (i := 40) rfl)) (by decide) (rm8 l Z a0 hw q0 h0 n0) (by decide) (by decide) rfl rfl (by decide) (by decide) rfl pd_28C29Z rfl rfl rfl (Nat.le_of_ble_eq_true rfl) rfl rfl ?_
  rw [show (f8 q0) = (1 : Int32) from if_neg le0]
  show GoB7 l Z n0 (Q7 Z q0 cs h0) h0 0 0 10 #[.val (.int q0)] [(.int (1 : Int32))]
  refine OwnW.ifcN (pc' := 13) d7_10 ((if0 _ _).trans (feq (by decide)).1) rfl ?_
  refine OwnW.newO (a0 := a0) (pc' := 16) (k' := 1) (n' := 4) d7_13 (hw _ (List.mem_of_getElem? (i := 41) rfl)) (hw _ (List.mem_of_getElem? (i := 6) rfl)) (hw _ (List.mem_of_getElem? (i := 7) rfl)) rfl rfl (by decide) (by decide) rfl ?_
  intro h1 ad1 g1 E1 A1 D1
  have ge_ad1 : n0 ≤ ad1 := Nat.le_trans Z0 (Nat.le_of_eq g1.symm)
  have sz_ad1 : n0 ≤ h1.size := Nat.le_trans Z0 E1.1
  have F1_coder : Fld Z h1 ad1 "java/lang/String" "coder" "B" (.int (0 : Int32)) := D1 (Or.inr (hw _ (List.mem_of_getElem? (i := 31) rfl))) (ty := .byte) (by decide)
  have F1_value : Fld Z h1 ad1 "java/lang/String" "value" "[B" .null := D1 (Or.inr (hw _ (List.mem_of_getElem? (i := 33) rfl))) (ty := (.array .byte)) (by decide)
  refine OwnW.dup (pc' := 17) d7_16 rfl rfl ?_
  refine OwnW.iloadN (pc' := 18) d7_17 rfl rfl ?_
  refine OwnW.callS (a0 := a0) (pc' := 21) (W := 2) (k' := 2) (n' := 5) (argsL := [(.int q0)]) (rest := [(.ref ad1), (.ref ad1)]) d7_18 (hw _ (List.mem_of_getElem? (i := 42) rfl)) (hw _ (List.mem_of_getElem? (i := 43) rfl)) (hw _ (List.mem_of_getElem? (i := 39) rfl)) (hw _ (List.mem_of_getElem? (i := 44) rfl)) (by decide) (rm9 l Z a0 hw q0 h1 n0 sz_ad1 ) (by decide) (by decide) rfl rfl (by decide) (by decide) rfl pd_28C295bB rfl rfl rfl (Nat.le_of_ble_eq_true rfl) rfl ?_
  rintro h2 v2 ⟨ad2_0, kc2_0, rfl, K2, gl2_0, Fc2_0⟩
  have lt_ad1_ad2_0 : ad1 < ad2_0 := Nat.lt_of_lt_of_le (A1).lt gl2_0
  have ge_ad2_0 : n0 ≤ ad2_0 := Nat.le_trans sz_ad1 gl2_0
  have F3 := (S_cs.ext E1)
  have S4 := OwnW.sta_keep F3 K2 all0
  have sz5 : n0 ≤ h2.size := Nat.le_trans sz_ad1 K2.1
  show GoB7 l Z n0 (Q7 Z q0 cs h0) h2 2 5 21 #[.val (.int q0)] [(.ref ad2_0), (.ref ad1), (.ref ad1)]
  refine OwnW.iconst (pc' := 22) (v := (0 : Int32)) d7_21 rfl rfl ?_
  have F6 := (A1.keep K2)
  have F7 := (F1_value.keep K2 nin0)
  have F8 := (F1_coder.keep K2 nin0)
  refine OwnW.callI (a0 := a0) (pc' := 25) (W := 1) (k' := 2) (n' := 5) (argsL := [(.ref ad2_0), (.int (0 : Int32))]) (rest := [(.ref ad1)]) d7_22 rfl (hw _ (List.mem_of_getElem? (i := 45) rfl)) (hw _ (List.mem_of_getElem? (i := 46) rfl)) (hw _ (List.mem_of_getElem? (i := 7) rfl)) (hw _ (List.mem_of_getElem? (i := 47) rfl)) (by decide) (rm10 l Z a0 hw ad1 ad2_0 h2 n0 sz5 ge_ad1 F6 F7 F8) (by decide) (by decide) rfl rfl (by decide) (by decide) rfl pd_285bBB29V rfl rfl rfl (Nat.le_of_ble_eq_true rfl) rfl ?_
  rintro h9 v9 ⟨rfl, K9⟩
  have S10 := OwnW.sta_keep S4 K9 (allS (OwnW.exa_ns F6) all0)
  have sz11 : n0 ≤ h9.size := Nat.le_trans sz5 K9.1
  show GoB7 l Z n0 (Q7 Z q0 cs h0) h9 2 5 25 #[.val (.int q0)] [(.ref ad1)]
  exact OwnW.retA d7_25 rfl rfl rfl (by decide) (by decide) (⟨ad1, rfl, ((((Keep.refl h0 []).ext E1).trans K2 all0).trans K9 (allS (Or.inr (Nat.le_trans (Nat.le_refl _) (Nat.le_of_eq g1.symm))) all0)), (Nat.le_trans (Nat.le_refl _) (Nat.le_of_eq g1.symm)), (F6.keep K9)⟩)
theorem d11_0 : decode prog_12_method_1_code 0 = .ok (.aload_n 0, 1) := by decide +kernel
theorem d11_1 : decode prog_12_method_1_code 1 = .ok (.invokespecial 1, 3) := by decide +kernel
theorem d11_4 : decode prog_12_method_1_code 4 = .ok (.aload_n 0, 1) := by decide +kernel
theorem d11_5 : decode prog_12_method_1_code 5 = .ok (.aload_n 1, 1) := by decide +kernel
theorem d11_6 : decode prog_12_method_1_code 6 = .ok (.putfield 7, 3) := by decide +kernel
theorem d11_9 : decode prog_12_method_1_code 9 = .ok (.aload_n 0, 1) := by decide +kernel
theorem d11_10 : decode prog_12_method_1_code 10 = .ok (.aload_n 2, 1) := by decide +kernel
theorem d11_11 : decode prog_12_method_1_code 11 = .ok (.putfield 13, 3) := by decide +kernel
theorem d11_14 : decode prog_12_method_1_code 14 = .ok (.aload_n 0, 1) := by decide +kernel
theorem d11_15 : decode prog_12_method_1_code 15 = .ok (.aload_n 3, 1) := by decide +kernel
theorem d11_16 : decode prog_12_method_1_code 16 = .ok (.putfield 16, 3) := by decide +kernel
theorem d11_19 : decode prog_12_method_1_code 19 = .ok (.aload_n 0, 1) := by decide +kernel
theorem d11_20 : decode prog_12_method_1_code 20 = .ok (.aload 4, 2) := by decide +kernel
theorem d11_22 : decode prog_12_method_1_code 22 = .ok (.putfield 19, 3) := by decide +kernel
theorem d11_25 : decode prog_12_method_1_code 25 = .ok (.return_, 1) := by decide +kernel
def Q11 (Z : State) (o : Addr) (q0 : Addr) (q1 : Addr) (q2 : Addr) (q3 : Addr) (h0 : Heap) (v : Option Value) (h : Heap) : Prop := v = none ∧ Keep h0 h [o] ∧ Exa Z h o "com/example/vestline/vestline/cli/Option" ∧ Fld Z h o "com/example/vestline/vestline/cli/Option" "name" "Ljava/lang/String;" (.ref q0) ∧ Fld Z h o "com/example/vestline/vestline/cli/Option" "value" "Ljava/lang/String;" (.ref q1) ∧ Fld Z h o "com/example/vestline/vestline/cli/Option" "named" "Ljava/lang/String;" (.ref q2) ∧ Fld Z h o "com/example/vestline/vestline/cli/Option" "presence" "Lcom/example/vestline/vestline/cli/Option$Presence;" (.ref q3)
abbrev GoB11 (l : Launch) (Z : State) (n0 : Nat) (Q : Option Value → Heap → Prop) := Go l Z ({ frames := 1, cells := 0, slots := 0, locals := 12 } : Room) (⟨"com/example/vestline/vestline/cli/Option", "<init>", "(Ljava/lang/String;Ljava/lang/String;Ljava/lang/String;Lcom/example/vestline/vestline/cli/Option$Presence;)V"⟩ : MethodName) prog_12_method_1_code 5 none n0 Q
theorem ef11 (m : MethodId) (o : Addr) (q0 : Addr) (q1 : Addr) (q2 : Addr) (q3 : Addr) : entryFrame m #[(.ref o), (.ref q0), (.ref q1), (.ref q2), (.ref q3)] 5 = mkF m 0 #[.val (.ref o), .val (.ref q0), .val (.ref q1), .val (.ref q2), .val (.ref q3)] [] := by first | (simp [entryFrame, mkF, argsToLocals, Value.category]; done) | rfl
set_option maxRecDepth 65536 in
set_option maxHeartbeats 40000000 in
theorem rm11 (l : Launch) (Z : State) (a0 : Array Value) (hw : ∀ d ∈ tables_1, d.before a0 Z = true) (o : Addr) (q0 : Addr) (q1 : Addr) (q2 : Addr) (q3 : Addr) (h0 : Heap) (n0 : Nat) (Z0 : n0 ≤ h0.size) (g_o : n0 ≤ o) (E_o : Exa Z h0 o "com/example/vestline/vestline/cli/Option") (F_name : Fld Z h0 o "com/example/vestline/vestline/cli/Option" "name" "Ljava/lang/String;" .null) (F_value : Fld Z h0 o "com/example/vestline/vestline/cli/Option" "value" "Ljava/lang/String;" .null) (F_named : Fld Z h0 o "com/example/vestline/vestline/cli/Option" "named" "Ljava/lang/String;" .null) (F_presence : Fld Z h0 o "com/example/vestline/vestline/cli/Option" "presence" "Lcom/example/vestline/vestline/cli/Option$Presence;" .null) :
    Con l Z ({ frames := 1, cells := 0, slots := 0, locals := 12 } : Room) (⟨"com/example/vestline/vestline/cli/Option", "<init>", "(Ljava/lang/String;Ljava/lang/String;Ljava/lang/String;Lcom/example/vestline/vestline/cli/Option$Presence;)V"⟩ : MethodName) prog_12_method_1_code 5 none n0 #[(.ref o), (.ref q0), (.ref q1), (.ref q2), (.ref q3)] h0 (Q11 Z o q0 q1 q2 q3 h0) := by
  refine OwnW.Con.of (by first | decide +kernel | exact plainFor_of_name (by simp [plainName, overriddenIn])) (fun m => ef11 m o q0 q1 q2 q3) ?_
  show GoB11 l Z n0 (Q11 Z o q0 q1 q2 q3 h0) h0 0 0 0 #[.val (.ref o), .val (.ref q0), .val (.ref q1), .val (.ref q2), .val (.ref q3)] []
  refine OwnW.aloadN (pc' := 1) d11_0 rfl (rfl) rfl ?_
  refine OwnW.initO (a0 := a0) (pc' := 4) (W := 0) d11_1 (hw _ (List.mem_of_getElem? (i := 54) rfl)) (hw _ (List.mem_of_getElem? (i := 16) rfl)) (hw _ (List.mem_of_getElem? (i := 17) rfl)) rfl (by decide) (Nat.le_of_ble_eq_true rfl) (by decide) rfl ?_
  refine OwnW.aloadN (pc' := 5) d11_4 rfl (rfl) rfl ?_
  refine OwnW.aloadN (pc' := 6) d11_5 rfl (rfl) rfl ?_
  refine OwnW.putF (a0 := a0) (pc' := 9) d11_6 (host := "") (Or.inl (hw _ (List.mem_of_getElem? (i := 55) rfl))) Via.refl F_name E_o (Or.inr ⟨(hw _ (List.mem_of_getElem? (i := 56) rfl)), rfl, rfl⟩) (hw _ (List.mem_of_getElem? (i := 49) rfl)) (ty := (.object "java/lang/String")) (by decide) rfl rfl g_o rfl ?_
  intro h1 W1
  have sz2 : n0 ≤ h1.size := (by rw [W1.size]; exact Z0)
  have F3 := F_name.same W1
  refine OwnW.aloadN (pc' := 10) d11_9 rfl (rfl) rfl ?_
  refine OwnW.aloadN (pc' := 11) d11_10 rfl (rfl) rfl ?_
  have F5 := (F_value.other W1 (Or.inr (slot_ne (a0 := a0) (C := "com/example/vestline/vestline/cli/Option") (Or.inr (hw _ (List.mem_of_getElem? (i := 58) rfl))) (Or.inr (hw _ (List.mem_of_getElem? (i := 56) rfl))) (by decide) (t := (.object "java/lang/String")) (t' := (.object "java/lang/String")) (by decide) (by decide))))
  have F6 := (E_o.wr W1)
  refine OwnW.putF (a0 := a0) (pc' := 14) d11_11 (host := "") (Or.inl (hw _ (List.mem_of_getElem? (i := 57) rfl))) Via.refl F5 F6 (Or.inr ⟨(hw _ (List.mem_of_getElem? (i := 58) rfl)), rfl, rfl⟩) (hw _ (List.mem_of_getElem? (i := 49) rfl)) (ty := (.object "java/lang/String")) (by decide) rfl rfl g_o rfl ?_
  intro h4 W4
  have sz7 : n0 ≤ h4.size := (by rw [W4.size]; exact sz2)
  have F8 := F5.same W4
  refine OwnW.aloadN (pc' := 15) d11_14 rfl (rfl) rfl ?_
  refine OwnW.aloadN (pc' := 16) d11_15 rfl (rfl) rfl ?_
  have F10 := ((F_named.other W1 (Or.inr (slot_ne (a0 := a0) (C := "com/example/vestline/vestline/cli/Option") (Or.inr (hw _ (List.mem_of_getElem? (i := 60) rfl))) (Or.inr (hw _ (List.mem_of_getElem? (i := 56) rfl))) (by decide) (t := (.object "java/lang/String")) (t' := (.object "java/lang/String")) (by decide) (by decide)))).other W4 (Or.inr (slot_ne (a0 := a0) (C := "com/example/vestline/vestline/cli/Option") (Or.inr (hw _ (List.mem_of_getElem? (i := 60) rfl))) (Or.inr (hw _ (List.mem_of_getElem? (i := 58) rfl))) (by decide) (t := (.object "java/lang/String")) (t' := (.object "java/lang/String")) (by decide) (by decide))))
  have F11 := (F6.wr W4)
  refine OwnW.putF (a0 := a0) (pc' := 19) d11_16 (host := "") (Or.inl (hw _ (List.mem_of_getElem? (i := 59) rfl))) Via.refl F10 F11 (Or.inr ⟨(hw _ (List.mem_of_getElem? (i := 60) rfl)), rfl, rfl⟩) (hw _ (List.mem_of_getElem? (i := 49) rfl)) (ty := (.object "java/lang/String")) (by decide) rfl rfl g_o rfl ?_
  intro h9 W9
  have sz12 : n0 ≤ h9.size := (by rw [W9.size]; exact sz7)
  have F13 := F10.same W9
  refine OwnW.aloadN (pc' := 20) d11_19 rfl (rfl) rfl ?_
  refine OwnW.aload (pc' := 22) d11_20 rfl (rfl) rfl ?_
  have F15 := (((F_presence.other W1 (Or.inr (slot_ne (a0 := a0) (C := "com/example/vestline/vestline/cli/Option") (Or.inr (hw _ (List.mem_of_getElem? (i := 62) rfl))) (Or.inr (hw _ (List.mem_of_getElem? (i := 56) rfl))) (by decide) (t := (.object "com/example/vestline/vestline/cli/Option$Presence")) (t' := (.object "java/lang/String")) (by decide) (by decide)))).other W4 (Or.inr (slot_ne (a0 := a0) (C := "com/example/vestline/vestline/cli/Option") (Or.inr (hw _ (List.mem_of_getElem? (i := 62) rfl))) (Or.inr (hw _ (List.mem_of_getElem? (i := 58) rfl))) (by decide) (t := (.object "com/example/vestline/vestline/cli/Option$Presence")) (t' := (.object "java/lang/String")) (by decide) (by decide)))).other W9 (Or.inr (slot_ne (a0 := a0) (C := "com/example/vestline/vestline/cli/Option") (Or.inr (hw _ (List.mem_of_getElem? (i := 62) rfl))) (Or.inr (hw _ (List.mem_of_getElem? (i := 60) rfl))) (by decide) (t := (.object "com/example/vestline/vestline/cli/Option$Presence")) (t' := (.object "java/lang/String")) (by decide) (by decide))))
  have F16 := (F11.wr W9)
  refine OwnW.putF (a0 := a0) (pc' := 25) d11_22 (host := "") (Or.inl (hw _ (List.mem_of_getElem? (i := 61) rfl))) Via.refl F15 F16 (Or.inr ⟨(hw _ (List.mem_of_getElem? (i := 62) rfl)), rfl, rfl⟩) (hw _ (List.mem_of_getElem? (i := 49) rfl)) (ty := (.object "com/example/vestline/vestline/cli/Option$Presence")) (by decide) rfl rfl g_o rfl ?_
  intro h14 W14
  have sz17 : n0 ≤ h14.size := (by rw [W14.size]; exact sz12)
  have F18 := F15.same W14
  exact OwnW.ret0 d11_25 rfl (by decide) (by decide) (⟨rfl, (((((Keep.refl h0 [o]).wr W1 (Or.inl (List.mem_of_getElem? (i := 0) rfl))).wr W4 (Or.inl (List.mem_of_getElem? (i := 0) rfl))).wr W9 (Or.inl (List.mem_of_getElem? (i := 0) rfl))).wr W14 (Or.inl (List.mem_of_getElem? (i := 0) rfl))), (F16.wr W14), (((F3.other W4 (Or.inr (slot_ne (a0 := a0) (C := "com/example/vestline/vestline/cli/Option") (Or.inr (hw _ (List.mem_of_getElem? (i := 56) rfl))) (Or.inr (hw _ (List.mem_of_getElem? (i := 58) rfl))) (by decide) (t := (.object "java/lang/String")) (t' := (.object "java/lang/String")) (by decide) (by decide)))).other W9 (Or.inr (slot_ne (a0 := a0) (C := "com/example/vestline/vestline/cli/Option") (Or.inr (hw _ (List.mem_of_getElem? (i := 56) rfl))) (Or.inr (hw _ (List.mem_of_getElem? (i := 60) rfl))) (by decide) (t := (.object "java/lang/String")) (t' := (.object "java/lang/String")) (by decide) (by decide)))).other W14 (Or.inr (slot_ne (a0 := a0) (C := "com/example/vestline/vestline/cli/Option") (Or.inr (hw _ (List.mem_of_getElem? (i := 56) rfl))) (Or.inr (hw _ (List.mem_of_getElem? (i := 62) rfl))) (by decide) (t := (.object "java/lang/String")) (t' := (.object "com/example/vestline/vestline/cli/Option$Presence")) (by decide) (by decide)))), ((F8.other W9 (Or.inr (slot_ne (a0 := a0) (C := "com/example/vestline/vestline/cli/Option") (Or.inr (hw _ (List.mem_of_getElem? (i := 58) rfl))) (Or.inr (hw _ (List.mem_of_getElem? (i := 60) rfl))) (by decide) (t := (.object "java/lang/String")) (t' := (.object "java/lang/String")) (by decide) (by decide)))).other W14 (Or.inr (slot_ne (a0 := a0) (C := "com/example/vestline/vestline/cli/Option") (Or.inr (hw _ (List.mem_of_getElem? (i := 58) rfl))) (Or.inr (hw _ (List.mem_of_getElem? (i := 62) rfl))) (by decide) (t := (.object "java/lang/String")) (t' := (.object "com/example/vestline/vestline/cli/Option$Presence")) (by decide) (by decide)))), (F13.other W14 (Or.inr (slot_ne (a0 := a0) (C := "com/example/vestline/vestline/cli/Option") (Or.inr (hw _ (List.mem_of_getElem? (i := 60) rfl))) (Or.inr (hw _ (List.mem_of_getElem? (i := 62) rfl))) (by decide) (t := (.object "java/lang/String")) (t' := (.object "com/example/vestline/vestline/cli/Option$Presence")) (by decide) (by decide)))), F18⟩)
theorem d12_0 : decode prog_12_method_2_code 0 = .ok (.new 8, 3) := by decide +kernel
theorem d12_3 : decode prog_12_method_2_code 3 = .ok (.dup, 1) := by decide +kernel
theorem d12_4 : decode prog_12_method_2_code 4 = .ok (.aload_n 0, 1) := by decide +kernel
theorem d12_5 : decode prog_12_method_2_code 5 = .ok (.aload_n 1, 1) := by decide +kernel
theorem d12_6 : decode prog_12_method_2_code 6 = .ok (.aload_n 2, 1) := by decide +kernel
theorem d12_7 : decode prog_12_method_2_code 7 = .ok (.getstatic 23, 3) := by decide +kernel
theorem d12_10 : decode prog_12_method_2_code 10 = .ok (.invokespecial 28, 3) := by decide +kernel
theorem d12_13 : decode prog_12_method_2_code 13 = .ok (.areturn, 1) := by decide +kernel
def Q12 (Z : State) (q0 : Addr) (q1 : Addr) (q2 : Addr) (e_REQUIRED : Addr) (h0 : Heap) (v : Option Value) (h : Heap) : Prop := ∃ (x0 : Addr), v = some (.ref x0) ∧ Keep h0 h [] ∧ h0.size ≤ x0 ∧ Exa Z h x0 "com/example/vestline/vestline/cli/Option" ∧ Fld Z h x0 "com/example/vestline/vestline/cli/Option" "presence" "Lcom/example/vestline/vestline/cli/Option$Presence;" (.ref e_REQUIRED)
abbrev GoB12 (l : Launch) (Z : State) (n0 : Nat) (Q : Option Value → Heap → Prop) := Go l Z ({ frames := 2, cells := 1, slots := 4, locals := 29 } : Room) (⟨"com/example/vestline/vestline/cli/Option", "required", "(Ljava/lang/String;Ljava/lang/String;Ljava/lang/String;)Lcom/example/vestline/vestline/cli/Option;"⟩ : MethodName) prog_12_method_2_code 3 (some (.object "com/example/vestline/vestline/cli/Option")) n0 Q
theorem ef12 (m : MethodId) (q0 : Addr) (q1 : Addr) (q2 : Addr) : entryFrame m #[(.ref q0), (.ref q1), (.ref q2)] 3 = mkF m 0 #[.val (.ref q0), .val (.ref q1), .val (.ref q2)] [] := by first | (simp [entryFrame, mkF, argsToLocals, Value.category]; done) | rfl
set_option maxRecDepth 65536 in
set_option maxHeartbeats 40000000 in
theorem rm12 (l : Launch) (Z : State) (a0 : Array Value) (hw : ∀ d ∈ tables_1, d.before a0 Z = true) (q0 : Addr) (q1 : Addr) (q2 : Addr) (e_REQUIRED : Addr) (h0 : Heap) (n0 : Nat) (Z0 : n0 ≤ h0.size) (S_REQUIRED : Sta Z h0 "com/example/vestline/vestline/cli/Option$Presence" "REQUIRED" "Lcom/example/vestline/vestline/cli/Option$Presence;" (.ref e_REQUIRED)) :
    Con l Z ({ frames := 2, cells := 1, slots := 4, locals := 29 } : Room) (⟨"com/example/vestline/vestline/cli/Option", "required", "(Ljava/lang/String;Ljava/lang/String;Ljava/lang/String;)Lcom/example/vestline/vestline/cli/Option;"⟩ : MethodName) prog_12_method_2_code 3 (some (.object "com/example/vestline/vestline/cli/Option")) n0 #[(.ref q0), (.ref q1), (.ref q2)] h0 (Q12 Z q0 q1 q2 e_REQUIRED h0) := by
  refine OwnW.Con.of (by first | decide +kernel | exact plainFor_of_name (by simp [plainName, overriddenIn])) (fun m => ef12 m q0 q1 q2) ?_
  show GoB12 l Z n0 (Q12 Z q0 q1 q2 e_REQUIRED h0) h0 0 0 0 #[.val (.ref q0), .val (.ref q1), .val (.ref q2)] []
  refine OwnW.newO (a0 := a0) (pc' := 3) (k' := 1) (n' := 4) d12_0 (hw _ (List.mem_of_getElem? (i := 66) rfl)) (hw _ (List.mem_of_getElem? (i := 49) rfl)) (hw _ (List.mem_of_getElem? (i := 50) rfl)) rfl rfl (by decide) (by decide) rfl ?_
  intro h1 ad1 g1 E1 A1 D1
  have ge_ad1 : n0 ≤ ad1 := Nat.le_trans Z0 (Nat.le_of_eq g1.symm)
  have sz_ad1 : n0 ≤ h1.size := Nat.le_trans Z0 E1.1
  have F1_name : Fld Z h1 ad1 "com/example/vestline/vestline/cli/Option" "name" "Ljava/lang/String;" .null := D1 (Or.inr (hw _ (List.mem_of_getElem? (i := 56) rfl))) (ty := (.object "java/lang/String")) (by decide)
  have F1_value : Fld Z h1 ad1 "com/example/vestline/vestline/cli/Option" "value" "Ljava/lang/String;" .null := D1 (Or.inr (hw _ (List.mem_of_getElem? (i := 58) rfl))) (ty := (.object "java/lang/String")) (by decide)
  have F1_named : Fld Z h1 ad1 "com/example/vestline/vestline/cli/Option" "named" "Ljava/lang/String;" .null := D1 (Or.inr (hw _ (List.mem_of_getElem? (i := 60) rfl))) (ty := (.object "java/lang/String")) (by decide)
  have F1_presence : Fld Z h1 ad1 "com/example/vestline/vestline/cli/Option" "presence" "Lcom/example/vestline/vestline/cli/Option$Presence;" .null := D1 (Or.inr (hw _ (List.mem_of_getElem? (i := 62) rfl))) (ty := (.object "com/example/vestline/vestline/cli/Option$Presence")) (by decide)
  refine OwnW.dup (pc' := 4) d12_3 rfl rfl ?_
  refine OwnW.aloadN (pc' := 5) d12_4 rfl (rfl) rfl ?_
  refine OwnW.aloadN (pc' := 6) d12_5 rfl (rfl) rfl ?_
  refine OwnW.aloadN (pc' := 7) d12_6 rfl (rfl) rfl ?_
  have F2 := (S_REQUIRED.ext E1)
  refine OwnW.getS (a0 := a0) (pc' := 10) d12_7 (host := "") (Or.inl (hw _ (List.mem_of_getElem? (i := 67) rfl))) Via.refl F2 rfl ?_
  refine OwnW.callI (a0 := a0) (pc' := 13) (W := 1) (k' := 1) (n' := 4) (argsL := [(.ref q0), (.ref q1), (.ref q2), (.ref e_REQUIRED)]) (rest := [(.ref ad1)]) d12_10 rfl (hw _ (List.mem_of_getElem? (i := 68) rfl)) (hw _ (List.mem_of_getElem? (i := 52) rfl)) (hw _ (List.mem_of_getElem? (i := 50) rfl)) (hw _ (List.mem_of_getElem? (i := 53) rfl)) (by decide) (rm11 l Z a0 hw ad1 q0 q1 q2 e_REQUIRED h1 n0 sz_ad1 ge_ad1 A1 F1_name F1_value F1_named F1_presence) (by decide) (by decide) rfl rfl (by decide) (by decide) rfl pd_28Ljava2flang2fString3bLjava2flang2fString3bLjava2flang2fString3bLcom2fexample2fvestline2fvestline2fcli2fOption24Presence3b29V rfl rfl rfl (Nat.le_of_ble_eq_true rfl) rfl ?_
  rintro h3 v3 ⟨rfl, K3, E3, F3_name, F3_value, F3_named, F3_presence⟩
  have S4 := OwnW.sta_keep F2 K3 (allS (OwnW.exa_ns A1) all0)
  have sz5 : n0 ≤ h3.size := Nat.le_trans sz_ad1 K3.1
  show GoB12 l Z n0 (Q12 Z q0 q1 q2 e_REQUIRED h0) h3 1 4 13 #[.val (.ref q0), .val (.ref q1), .val (.ref q2)] [(.ref ad1)]
  exact OwnW.retA d12_13 rfl rfl rfl (by decide) (by decide) (⟨ad1, rfl, (((Keep.refl h0 []).ext E1).trans K3 (allS (Or.inr (Nat.le_trans (Nat.le_refl _) (Nat.le_of_eq g1.symm))) all0)), (Nat.le_trans (Nat.le_refl _) (Nat.le_of_eq g1.symm)), E3, F3_presence⟩)
theorem d13_0 : decode prog_12_method_5_code 0 = .ok (.aload_n 0, 1) := by decide +kernel
theorem d13_1 : decode prog_12_method_5_code 1 = .ok (.getfield 19, 3) := by decide +kernel
theorem d13_4 : decode prog_12_method_5_code 4 = .ok (.getstatic 23, 3) := by decide +kernel
theorem d13_7 : decode prog_12_method_5_code 7 = .ok (.if_acmp .ne 7, 3) := by decide +kernel
theorem d13_10 : decode prog_12_method_5_code 10 = .ok (.iconst 1, 1) := by decide +kernel
theorem d13_11 : decode prog_12_method_5_code 11 = .ok (.goto 4, 3) := by decide +kernel
theorem d13_14 : decode prog_12_method_5_code 14 = .ok (.iconst 0, 1) := by decide +kernel
theorem d13_15 : decode prog_12_method_5_code 15 = .ok (.ireturn, 1) := by decide +kernel
def f13 (o : Addr) (pz : Addr) (e_REQUIRED : Addr) : Int32 := (if pz = e_REQUIRED then (1 : Int32) else (0 : Int32))
abbrev GoB13 (l : Launch) (Z : State) (n0 : Nat) (Q : Option Value → Heap → Prop) := Go l Z ({ frames := 0, cells := 0, slots := 0, locals := 0 } : Room) (⟨"com/example/vestline/vestline/cli/Option", "isRequired", "()Z"⟩ : MethodName) prog_12_method_5_code 1 (some .boolean) n0 Q
theorem ef13 (m : MethodId) (o : Addr) : entryFrame m #[(.ref o)] 1 = mkF m 0 #[.val (.ref o)] [] := by first | (simp [entryFrame, mkF, argsToLocals, Value.category]; done) | rfl
set_option maxRecDepth 65536 in
set_option maxHeartbeats 40000000 in
theorem rm13 (l : Launch) (Z : State) (a0 : Array Value) (hw : ∀ d ∈ tables_1, d.before a0 Z = true) (o : Addr) (pz : Addr) (e_REQUIRED : Addr) (h0 : Heap) (n0 : Nat) (F_p : Fld Z h0 o "com/example/vestline/vestline/cli/Option" "presence" "Lcom/example/vestline/vestline/cli/Option$Presence;" (.ref pz)) (S_REQUIRED : Sta Z h0 "com/example/vestline/vestline/cli/Option$Presence" "REQUIRED" "Lcom/example/vestline/vestline/cli/Option$Presence;" (.ref e_REQUIRED)) :
    Con l Z ({ frames := 0, cells := 0, slots := 0, locals := 0 } : Room) (⟨"com/example/vestline/vestline/cli/Option", "isRequired", "()Z"⟩ : MethodName) prog_12_method_5_code 1 (some .boolean) n0 #[(.ref o)] h0 (OwnW.Ret (some (.int (f13 o pz e_REQUIRED))) h0) := by
  refine OwnW.Con.of (by first | decide +kernel | exact plainFor_of_name (by simp [plainName, overriddenIn])) (fun m => ef13 m o) ?_
  show GoB13 l Z n0 (OwnW.Ret (some (.int (f13 o pz e_REQUIRED))) h0) h0 0 0 0 #[.val (.ref o)] []
  refine OwnW.aloadN (pc' := 1) d13_0 rfl (rfl) rfl ?_
  refine OwnW.getF (a0 := a0) (pc' := 4) d13_1 (host := "") (Or.inl (hw _ (List.mem_of_getElem? (i := 61) rfl))) Via.refl F_p rfl ?_
  refine OwnW.getS (a0 := a0) (pc' := 7) d13_4 (host := "") (Or.inl (hw _ (List.mem_of_getElem? (i := 67) rfl))) Via.refl S_REQUIRED rfl ?_
  by_cases ha7 : pz = e_REQUIRED
  ·
    refine OwnW.acmp (pc' := 10) (same := true) d13_7 rfl rfl (decide_eq_true (congrArg Value.ref ha7)) (by decide) (by decide) ?_
    refine OwnW.iconst (pc' := 11) (v := (1 : Int32)) d13_10 rfl rfl ?_
    refine OwnW.goto (pc' := 15) d13_11 (by decide) (by decide) ?_
    exact OwnW.retN (t := .boolean) d13_15 rfl (by simp) rfl (by decide) (by decide) (⟨by first | (simp only [f13, if_pos ha7]; done) | (simp only [f13, if_pos ha7]; rfl), rfl⟩)
  ·
    refine OwnW.acmp (pc' := 14) (same := false) d13_7 rfl rfl (decide_eq_false fun q => ha7 (Value.ref.inj q)) (by decide) (by decide) ?_
    refine OwnW.iconst (pc' := 15) (v := (0 : Int32)) d13_14 rfl rfl ?_
    exact OwnW.retN (t := .boolean) d13_15 rfl (by simp) rfl (by decide) (by decide) (⟨by first | (simp only [f13, if_neg ha7]; done) | (simp only [f13, if_neg ha7]; rfl), rfl⟩)

theorem own_ch {x c : Int32} (h : c = ((x &&& (255 : Int32)).toUInt32.toUInt16.toUInt32.toInt32)) : nar .char c = c ∧ ¬ (255 : Int32) < c := by
  rw [i2c_mask] at h
  subst h
  refine ⟨i2c_mask x, ?_⟩
  have e := c_mask x 255 8 (by decide) (by decide)
  have o : (255 : Int32).toInt = 255 := by decide
  rw [Int32.lt_iff_toInt_lt]
  omega
theorem own_law {k exp : Int32} {o pz e_REQUIRED e_READ_BY_PLAN e_OPTIONAL : Addr} (hpz : pz = (if k = (0 : Int32) then e_REQUIRED else (if k = (1 : Int32) then e_READ_BY_PLAN else e_OPTIONAL))) (hexp : exp = (if k = (0 : Int32) then (1 : Int32) else (0 : Int32))) (ne_READ_BY_PLAN_REQUIRED : e_READ_BY_PLAN ≠ e_REQUIRED) (ne_REQUIRED_OPTIONAL : e_REQUIRED ≠ e_OPTIONAL) : f13 o pz e_REQUIRED = exp := by
  subst hexp hpz
  unfold f13
  by_cases h0 : k = (0 : Int32)
  · simp [h0]
  · by_cases h1 : k = (1 : Int32)
    · simp [h0, h1, *, Ne.symm, *]
    · simp [h0, h1, *, Ne.symm, *]

abbrev GoB0 (l : Launch) (Z : State) (n0 : Nat) (Q : Option Value → Heap → Prop) := Go l Z room_1 x code maxLocals ret n0 Q
theorem ef0 (m : MethodId) (p0 : Int32) (p1 : Int32) (p2 : Int32) (p3 : Int32) : entryFrame m #[(.int p0), (.int p1), (.int p2), (.int p3)] maxLocals = mkF m 0 #[.val (.int p0), .val (.int p1), .val (.int p2), .val (.int p3), .unset, .unset, .unset, .unset, .unset, .unset, .unset, .unset, .unset, .unset] [] := by first | (simp [entryFrame, mkF, argsToLocals, Value.category, maxLocals]; done) | rfl
set_option maxRecDepth 65536 in
set_option maxHeartbeats 400000000 in
theorem rm0 (l : Launch) (Z : State) (a0 : Array Value) (hw : ∀ d ∈ tables_1, d.before a0 Z = true) (p0 : Int32) (p1 : Int32) (p2 : Int32) (p3 : Int32) (e_REQUIRED : Addr) (e_READ_BY_PLAN : Addr) (e_OPTIONAL : Addr) (cs : Int32) (h0 : Heap) (n0 : Nat) (Z0 : n0 ≤ h0.size) (S_REQUIRED : Sta Z h0 "com/example/vestline/vestline/cli/Option$Presence" "REQUIRED" "Lcom/example/vestline/vestline/cli/Option$Presence;" (.ref e_REQUIRED)) (E_REQUIRED : Exa Z h0 e_REQUIRED "com/example/vestline/vestline/cli/Option$Presence") (S_READ_BY_PLAN : Sta Z h0 "com/example/vestline/vestline/cli/Option$Presence" "READ_BY_PLAN" "Lcom/example/vestline/vestline/cli/Option$Presence;" (.ref e_READ_BY_PLAN)) (E_READ_BY_PLAN : Exa Z h0 e_READ_BY_PLAN "com/example/vestline/vestline/cli/Option$Presence") (S_OPTIONAL : Sta Z h0 "com/example/vestline/vestline/cli/Option$Presence" "OPTIONAL" "Lcom/example/vestline/vestline/cli/Option$Presence;" (.ref e_OPTIONAL)) (E_OPTIONAL : Exa Z h0 e_OPTIONAL "com/example/vestline/vestline/cli/Option$Presence") (O_READ_BY_PLAN_ordinal : Fld Z h0 e_READ_BY_PLAN "java/lang/Enum" "ordinal" "I" (.int (1 : Int32))) (O_REQUIRED_ordinal : Fld Z h0 e_REQUIRED "java/lang/Enum" "ordinal" "I" (.int (0 : Int32))) (O_OPTIONAL_ordinal : Fld Z h0 e_OPTIONAL "java/lang/Enum" "ordinal" "I" (.int (2 : Int32))) (S_cs : Sta Z h0 "java/lang/String" "COMPACT_STRINGS" "Z" (.int cs)) (hcs : ¬ cs = (0 : Int32)) :
    Con l Z room_1 x code maxLocals ret n0 #[(.int p0), (.int p1), (.int p2), (.int p3)] h0 OwnW.One1 := by
  refine OwnW.Con.of (by first | decide +kernel | exact plainFor_of_name (by simp [x, plainName, overriddenIn])) (fun m => ef0 m p0 p1 p2 p3) ?_
  show GoB0 l Z n0 OwnW.One1 h0 0 0 0 #[.val (.int p0), .val (.int p1), .val (.int p2), .val (.int p3), .unset, .unset, .unset, .unset, .unset, .unset, .unset, .unset, .unset, .unset] []
  refine OwnW.iloadN (pc' := 1) at_0 rfl rfl ?_
  refine OwnW.ldcI (a0 := a0) (pc' := 3) (v := (2147483647 : Int32)) at_1 (hw _ (List.mem_of_getElem? (i := 0) rfl)) rfl ?_
  refine OwnW.iand (pc' := 4) at_3 rfl ?_
  refine OwnW.iconst (pc' := 5) (v := (3 : Int32)) at_4 rfl rfl ?_
  refine OwnW.irem (pc' := 6) at_5 (by decide) rfl ?_
  obtain ⟨k, hk⟩ : ∃ z, z = ((p0 &&& (2147483647 : Int32)) % (3 : Int32)) := ⟨_, rfl⟩
  rw [← hk]
  show GoB0 l Z n0 OwnW.One1 h0 0 0 6 #[.val (.int p0), .val (.int p1), .val (.int p2), .val (.int p3), .unset, .unset, .unset, .unset, .unset, .unset, .unset, .unset, .unset, .unset] [(.int k)]
  refine OwnW.istore (pc' := 8) (L' := #[.val (.int p0), .val (.int p1), .val (.int p2), .val (.int p3), .val (.int k), .unset, .unset, .unset, .unset, .unset, .unset, .unset, .unset, .unset]) at_6 rfl rfl ?_
  refine OwnW.iload (pc' := 10) at_8 rfl rfl ?_
  suffices J10_40 : ∀ (pz : Addr), pz = (if k = (0 : Int32) then e_REQUIRED else (if k = (1 : Int32) then e_READ_BY_PLAN else e_OPTIONAL)) → GoB0 l Z n0 OwnW.One1 h0 0 0 40 #[.val (.int p0), .val (.int p1), .val (.int p2), .val (.int p3), .val (.int k), .val (.ref pz), .unset, .unset, .unset, .unset, .unset, .unset, .unset, .unset] [] by
    by_cases hc10 : k = (0 : Int32)
    ·
      refine OwnW.ifcN (pc' := 13) at_10 ((if0 _ _).trans (teq hc10).2) rfl ?_
      refine OwnW.getS (a0 := a0) (pc' := 16) at_13 (host := "") (Or.inl (hw _ (List.mem_of_getElem? (i := 1) rfl))) Via.refl (S_REQUIRED.ext (OwnW.ext_refl h0)) rfl ?_
      refine OwnW.astore (pc' := 18) (L' := #[.val (.int p0), .val (.int p1), .val (.int p2), .val (.int p3), .val (.int k), .val (.ref e_REQUIRED), .unset, .unset, .unset, .unset, .unset, .unset, .unset, .unset]) at_16 (rfl) rfl rfl ?_
      refine OwnW.goto (pc' := 40) at_18 (by decide) (by decide) ?_
      exact J10_40 _ (by first | simp only [if_pos hc10] | rfl)
    ·
      refine OwnW.ifcY (pc' := 21) at_10 ((if0 _ _).trans (feq hc10).2) (by decide) (by decide) ?_
      refine OwnW.iload (pc' := 23) at_21 rfl rfl ?_
      refine OwnW.iconst (pc' := 24) (v := (1 : Int32)) at_23 rfl rfl ?_
      by_cases hc24 : k = (1 : Int32)
      ·
        refine OwnW.icmpN (pc' := 27) at_24 (teq hc24).2 rfl ?_
        refine OwnW.getS (a0 := a0) (pc' := 30) at_27 (host := "") (Or.inl (hw _ (List.mem_of_getElem? (i := 74) rfl))) Via.refl (S_READ_BY_PLAN.ext (OwnW.ext_refl h0)) rfl ?_
        refine OwnW.astore (pc' := 32) (L' := #[.val (.int p0), .val (.int p1), .val (.int p2), .val (.int p3), .val (.int k), .val (.ref e_READ_BY_PLAN), .unset, .unset, .unset, .unset, .unset, .unset, .unset, .unset]) at_30 (rfl) rfl rfl ?_
        refine OwnW.goto (pc' := 40) at_32 (by decide) (by decide) ?_
        exact J10_40 _ (by first | simp only [if_neg hc10, if_pos hc24] | rfl)
      ·
        refine OwnW.icmpY (pc' := 35) at_24 (feq hc24).2 (by decide) (by decide) ?_
        refine OwnW.getS (a0 := a0) (pc' := 38) at_35 (host := "") (Or.inl (hw _ (List.mem_of_getElem? (i := 76) rfl))) Via.refl (S_OPTIONAL.ext (OwnW.ext_refl h0)) rfl ?_
        refine OwnW.astore (pc' := 40) (L' := #[.val (.int p0), .val (.int p1), .val (.int p2), .val (.int p3), .val (.int k), .val (.ref e_OPTIONAL), .unset, .unset, .unset, .unset, .unset, .unset, .unset, .unset]) at_38 (rfl) rfl rfl ?_
        exact J10_40 _ (by first | simp only [if_neg hc10, if_neg hc24] | rfl)
  intro pz hpz
  refine OwnW.iconst (pc' := 41) (v := (2 : Int32)) at_40 rfl rfl ?_
  refine OwnW.newP (a0 := a0) (pc' := 43) (cap := 2) (k' := 1) (n' := 2) at_41 (hw _ (List.mem_of_getElem? (i := 4) rfl)) (by decide) (by decide) (by decide) rfl rfl (by decide) (by decide) rfl ?_
  intro h1 kc1 ad1 g1 E1 A1
  have ge_ad1 : n0 ≤ ad1 := Nat.le_trans Z0 (Nat.le_of_eq g1.symm)
  have X2 : Ext h0 h1 := OwnW.ext_trans (OwnW.ext_refl h0) E1
  have sz_ad1 : n0 ≤ h1.size := Nat.le_trans Z0 E1.1
  have V1 : Arv Z h1 ad1 kc1 .char (2 : Int32) [(.int (0 : Int32)), (.int (0 : Int32))] (.int (0 : Int32)) := (Arv.new A1 (by decide)).pad (pad_rep [] _ 2)
  refine OwnW.astore (pc' := 45) (L' := #[.val (.int p0), .val (.int p1), .val (.int p2), .val (.int p3), .val (.int k), .val (.ref pz), .val (.ref ad1), .unset, .unset, .unset, .unset, .unset, .unset, .unset]) at_43 (rfl) rfl rfl ?_
  refine OwnW.aload (pc' := 47) at_45 rfl (rfl) rfl ?_
  refine OwnW.iconst (pc' := 48) (v := (0 : Int32)) at_47 rfl rfl ?_
  refine OwnW.iloadN (pc' := 49) at_48 rfl rfl ?_
  refine OwnW.sipush (pc' := 52) (v := (255 : Int32)) at_49 rfl rfl ?_
  refine OwnW.iand (pc' := 53) at_52 rfl ?_
  refine OwnW.i2c (pc' := 54) at_53 rfl ?_
  obtain ⟨c0, hc0⟩ : ∃ z, z = ((p1 &&& (255 : Int32)).toUInt32.toUInt16.toUInt32.toInt32) := ⟨_, rfl⟩
  rw [← hc0]
  show GoB0 l Z n0 OwnW.One1 h1 1 2 54 #[.val (.int p0), .val (.int p1), .val (.int p2), .val (.int p3), .val (.int k), .val (.ref pz), .val (.ref ad1), .unset, .unset, .unset, .unset, .unset, .unset, .unset] [(.int c0), (.int (0 : Int32)), (.ref ad1)]
  have le0 := (own_ch hc0).2
  have nc0 := (own_ch hc0).1
  obtain ⟨cl3, Ar3, qk3, Sz3, Mn3, Hv3, Gf3⟩ := id V1
  refine OwnW.stC (pc' := 55) at_54 Ar3 (inb_of Sz3 ⟨by decide, by decide⟩) ge_ad1 rfl ?_
  intro h3 W3
  rw [nc0] at W3
  have X4 : Ext h0 h3 := OwnW.ext_wr X2 W3 (Nat.le_trans (Nat.le_refl _) (Nat.le_of_eq g1.symm))
  have sz5 : n0 ≤ h3.size := (by rw [W3.size]; exact sz_ad1)
  have V3 : Arv Z h3 ad1 kc1 .char (2 : Int32) [(.int c0), (.int (0 : Int32))] (.int (0 : Int32)) := Arv.set Ar3 qk3 Sz3 Mn3 Hv3 Gf3 (by rw [← nc0]; exact fits_nar_char _) W3 0 rfl (Nat.le_of_ble_eq_true rfl)
  refine OwnW.aload (pc' := 57) at_55 rfl (rfl) rfl ?_
  refine OwnW.iconst (pc' := 58) (v := (1 : Int32)) at_57 rfl rfl ?_
  refine OwnW.iloadN (pc' := 59) at_58 rfl rfl ?_
  refine OwnW.bipush (pc' := 61) (v := (8 : Int32)) at_59 rfl rfl ?_
  refine OwnW.iushr (pc' := 62) at_61 rfl ?_
  refine OwnW.sipush (pc' := 65) (v := (255 : Int32)) at_62 rfl rfl ?_
  refine OwnW.iand (pc' := 66) at_65 rfl ?_
  refine OwnW.i2c (pc' := 67) at_66 rfl ?_
  obtain ⟨c1, hc1⟩ : ∃ z, z = ((((p1.toUInt32 >>> ((8 : Int32) &&& 31).toUInt32).toInt32) &&& (255 : Int32)).toUInt32.toUInt16.toUInt32.toInt32) := ⟨_, rfl⟩
  rw [← hc1]
  show GoB0 l Z n0 OwnW.One1 h3 1 2 67 #[.val (.int p0), .val (.int p1), .val (.int p2), .val (.int p3), .val (.int k), .val (.ref pz), .val (.ref ad1), .unset, .unset, .unset, .unset, .unset, .unset, .unset] [(.int c1), (.int (1 : Int32)), (.ref ad1)]
  have le1 := (own_ch hc1).2
  have nc1 := (own_ch hc1).1
  obtain ⟨cl6, Ar6, qk6, Sz6, Mn6, Hv6, Gf6⟩ := id V3
  refine OwnW.stC (pc' := 68) at_67 Ar6 (inb_of Sz6 ⟨by decide, by decide⟩) ge_ad1 rfl ?_
  intro h6 W6
  rw [nc1] at W6
  have X7 : Ext h0 h6 := OwnW.ext_wr X4 W6 (Nat.le_trans (Nat.le_refl _) (Nat.le_of_eq g1.symm))
  have sz8 : n0 ≤ h6.size := (by rw [W6.size]; exact sz5)
  have V6 : Arv Z h6 ad1 kc1 .char (2 : Int32) [(.int c0), (.int c1)] (.int (0 : Int32)) := Arv.set Ar6 qk6 Sz6 Mn6 Hv6 Gf6 (by rw [← nc1]; exact fits_nar_char _) W6 1 rfl (Nat.le_of_ble_eq_true rfl)
  refine OwnW.newO (a0 := a0) (pc' := 71) (k' := 2) (n' := 6) at_68 (hw _ (List.mem_of_getElem? (i := 5) rfl)) (hw _ (List.mem_of_getElem? (i := 6) rfl)) (hw _ (List.mem_of_getElem? (i := 7) rfl)) rfl rfl (by decide) (by decide) rfl ?_
  intro h9 ad9 g9 E9 A9 D9
  have lt_ad1_ad9 : ad1 < ad9 := Nat.lt_of_lt_of_le (V6).lt (Nat.le_of_eq g9.symm)
  have ge_ad9 : n0 ≤ ad9 := Nat.le_trans sz8 (Nat.le_of_eq g9.symm)
  have X10 : Ext h0 h9 := OwnW.ext_trans X7 E9
  have sz_ad9 : n0 ≤ h9.size := Nat.le_trans sz8 E9.1
  have F9_coder : Fld Z h9 ad9 "java/lang/String" "coder" "B" (.int (0 : Int32)) := D9 (Or.inr (hw _ (List.mem_of_getElem? (i := 31) rfl))) (ty := .byte) (by decide)
  have F9_value : Fld Z h9 ad9 "java/lang/String" "value" "[B" .null := D9 (Or.inr (hw _ (List.mem_of_getElem? (i := 33) rfl))) (ty := (.array .byte)) (by decide)
  refine OwnW.dup (pc' := 72) at_71 rfl rfl ?_
  refine OwnW.aload (pc' := 74) at_72 rfl (rfl) rfl ?_
  have F11 := (V6.ext E9)
  refine OwnW.callI (a0 := a0) (pc' := 77) (W := 1) (k' := 3) (n' := 8) (argsL := [(.ref ad1)]) (rest := [(.ref ad9)]) at_74 rfl (hw _ (List.mem_of_getElem? (i := 8) rfl)) (hw _ (List.mem_of_getElem? (i := 9) rfl)) (hw _ (List.mem_of_getElem? (i := 7) rfl)) (hw _ (List.mem_of_getElem? (i := 10) rfl)) (by decide) (rm1_2 l Z a0 hw ad9 ad1 kc1 c0 c1 cs h9 n0 sz_ad9 ge_ad9 A9 F9_value F9_coder F11 (S_cs.ext X10) le0 le1 hcs) (by decide) (by decide) rfl rfl (by decide) (by decide) rfl pd_285bC29V rfl rfl rfl (Nat.le_of_ble_eq_true rfl) rfl ?_
  rintro h12 v12 ⟨rfl, K12⟩
  have X13 : Ext h0 h12 := OwnW.ext_keep X10 K12 (allS (Nat.le_trans (Nat.le_trans (Nat.le_trans (Nat.le_trans (Nat.le_refl _) E1.1) (Nat.le_of_eq W3.size.symm)) (Nat.le_of_eq W6.size.symm)) (Nat.le_of_eq g9.symm)) all0)
  have sz14 : n0 ≤ h12.size := Nat.le_trans sz_ad9 K12.1
  show GoB0 l Z n0 OwnW.One1 h12 3 8 77 #[.val (.int p0), .val (.int p1), .val (.int p2), .val (.int p3), .val (.int k), .val (.ref pz), .val (.ref ad1), .unset, .unset, .unset, .unset, .unset, .unset, .unset] [(.ref ad9)]
  refine OwnW.astore (pc' := 79) (L' := #[.val (.int p0), .val (.int p1), .val (.int p2), .val (.int p3), .val (.int k), .val (.ref pz), .val (.ref ad1), .val (.ref ad9), .unset, .unset, .unset, .unset, .unset, .unset]) at_77 (rfl) rfl rfl ?_
  refine OwnW.iloadN (pc' := 80) at_79 rfl rfl ?_
  refine OwnW.sipush (pc' := 83) (v := (255 : Int32)) at_80 rfl rfl ?_
  refine OwnW.iand (pc' := 84) at_83 rfl ?_
  refine OwnW.i2c (pc' := 85) at_84 rfl ?_
  obtain ⟨c2, hc2⟩ : ∃ z, z = ((p2 &&& (255 : Int32)).toUInt32.toUInt16.toUInt32.toInt32) := ⟨_, rfl⟩
  rw [← hc2]
  show GoB0 l Z n0 OwnW.One1 h12 3 8 85 #[.val (.int p0), .val (.int p1), .val (.int p2), .val (.int p3), .val (.int k), .val (.ref pz), .val (.ref ad1), .val (.ref ad9), .unset, .unset, .unset, .unset, .unset, .unset] [(.int c2)]
  have le2 := (own_ch hc2).2
  have nc2 := (own_ch hc2).1
  refine OwnW.callS (a0 := a0) (pc' := 88) (W := 0) (k' := 5) (n' := 13) (argsL := [(.int c2)]) (rest := []) at_85 (hw _ (List.mem_of_getElem? (i := 34) rfl)) (hw _ (List.mem_of_getElem? (i := 35) rfl)) (hw _ (List.mem_of_getElem? (i := 7) rfl)) (hw _ (List.mem_of_getElem? (i := 36) rfl)) (by decide) (rm7 l Z a0 hw c2 cs h12 n0 sz14 (S_cs.ext X13) le2 hcs) (by decide) (by decide) rfl rfl (by decide) (by decide) rfl pd_28C29Ljava2flang2fString3b rfl rfl rfl (Nat.le_of_ble_eq_true rfl) rfl ?_
  rintro h15 v15 ⟨ad15_0, rfl, K15, gl15_0, Fc15_0⟩
  have lt_ad1_ad15_0 : ad1 < ad15_0 := Nat.lt_of_lt_of_le ((F11.keep K12 (ninS (Nat.ne_of_lt lt_ad1_ad9) nin0))).lt gl15_0
  have lt_ad9_ad15_0 : ad9 < ad15_0 := Nat.lt_of_lt_of_le ((A9.keep K12)).lt gl15_0
  have ge_ad15_0 : n0 ≤ ad15_0 := Nat.le_trans sz14 gl15_0
  have X16 : Ext h0 h15 := OwnW.ext_keep X13 K15 all0
  have sz17 : n0 ≤ h15.size := Nat.le_trans sz14 K15.1
  show GoB0 l Z n0 OwnW.One1 h15 5 13 88 #[.val (.int p0), .val (.int p1), .val (.int p2), .val (.int p3), .val (.int k), .val (.ref pz), .val (.ref ad1), .val (.ref ad9), .unset, .unset, .unset, .unset, .unset, .unset] [(.ref ad15_0)]
  refine OwnW.astore (pc' := 90) (L' := #[.val (.int p0), .val (.int p1), .val (.int p2), .val (.int p3), .val (.int k), .val (.ref pz), .val (.ref ad1), .val (.ref ad9), .val (.ref ad15_0), .unset, .unset, .unset, .unset, .unset]) at_88 (rfl) rfl rfl ?_
  refine OwnW.iconst (pc' := 91) (v := (3 : Int32)) at_90 rfl rfl ?_
  refine OwnW.newP (a0 := a0) (pc' := 93) (cap := 3) (k' := 6) (n' := 16) at_91 (hw _ (List.mem_of_getElem? (i := 4) rfl)) (by decide) (by decide) (by decide) rfl rfl (by decide) (by decide) rfl ?_
  intro h18 kc18 ad18 g18 E18 A18
  have lt_ad1_ad18 : ad1 < ad18 := Nat.lt_of_lt_of_le (((F11.keep K12 (ninS (Nat.ne_of_lt lt_ad1_ad9) nin0)).keep K15 nin0)).lt (Nat.le_of_eq g18.symm)
  have lt_ad9_ad18 : ad9 < ad18 := Nat.lt_of_lt_of_le (((A9.keep K12).keep K15)).lt (Nat.le_of_eq g18.symm)
  have lt_ad15_0_ad18 : ad15_0 < ad18 := Nat.lt_of_lt_of_le (Fc15_0).lt (Nat.le_of_eq g18.symm)
  have ge_ad18 : n0 ≤ ad18 := Nat.le_trans sz17 (Nat.le_of_eq g18.symm)
  have X19 : Ext h0 h18 := OwnW.ext_trans X16 E18
  have sz_ad18 : n0 ≤ h18.size := Nat.le_trans sz17 E18.1
  have V18 : Arv Z h18 ad18 kc18 .char (3 : Int32) [(.int (0 : Int32)), (.int (0 : Int32)), (.int (0 : Int32))] (.int (0 : Int32)) := (Arv.new A18 (by decide)).pad (pad_rep [] _ 3)
  refine OwnW.astore (pc' := 95) (L' := #[.val (.int p0), .val (.int p1), .val (.int p2), .val (.int p3), .val (.int k), .val (.ref pz), .val (.ref ad1), .val (.ref ad9), .val (.ref ad15_0), .val (.ref ad18), .unset, .unset, .unset, .unset]) at_93 (rfl) rfl rfl ?_
  refine OwnW.aload (pc' := 97) at_95 rfl (rfl) rfl ?_
  refine OwnW.iconst (pc' := 98) (v := (0 : Int32)) at_97 rfl rfl ?_
  refine OwnW.iloadN (pc' := 99) at_98 rfl rfl ?_
  refine OwnW.sipush (pc' := 102) (v := (255 : Int32)) at_99 rfl rfl ?_
  refine OwnW.iand (pc' := 103) at_102 rfl ?_
  refine OwnW.i2c (pc' := 104) at_103 rfl ?_
  obtain ⟨c3, hc3⟩ : ∃ z, z = ((p3 &&& (255 : Int32)).toUInt32.toUInt16.toUInt32.toInt32) := ⟨_, rfl⟩
  rw [← hc3]
  show GoB0 l Z n0 OwnW.One1 h18 6 16 104 #[.val (.int p0), .val (.int p1), .val (.int p2), .val (.int p3), .val (.int k), .val (.ref pz), .val (.ref ad1), .val (.ref ad9), .val (.ref ad15_0), .val (.ref ad18), .unset, .unset, .unset, .unset] [(.int c3), (.int (0 : Int32)), (.ref ad18)]
  have le3 := (own_ch hc3).2
  have nc3 := (own_ch hc3).1
  obtain ⟨cl20, Ar20, qk20, Sz20, Mn20, Hv20, Gf20⟩ := id V18
  refine OwnW.stC (pc' := 105) at_104 Ar20 (inb_of Sz20 ⟨by decide, by decide⟩) ge_ad18 rfl ?_
  intro h20 W20
  rw [nc3] at W20
  have X21 : Ext h0 h20 := OwnW.ext_wr X19 W20 (Nat.le_trans (Nat.le_trans (Nat.le_trans (Nat.le_trans (Nat.le_trans (Nat.le_trans (Nat.le_trans (Nat.le_refl _) E1.1) (Nat.le_of_eq W3.size.symm)) (Nat.le_of_eq W6.size.symm)) E9.1) K12.1) K15.1) (Nat.le_of_eq g18.symm))
  have sz22 : n0 ≤ h20.size := (by rw [W20.size]; exact sz_ad18)
  have V20 : Arv Z h20 ad18 kc18 .char (3 : Int32) [(.int c3), (.int (0 : Int32)), (.int (0 : Int32))] (.int (0 : Int32)) := Arv.set Ar20 qk20 Sz20 Mn20 Hv20 Gf20 (by rw [← nc3]; exact fits_nar_char _) W20 0 rfl (Nat.le_of_ble_eq_true rfl)
  refine OwnW.aload (pc' := 107) at_105 rfl (rfl) rfl ?_
  refine OwnW.iconst (pc' := 108) (v := (1 : Int32)) at_107 rfl rfl ?_
  refine OwnW.iloadN (pc' := 109) at_108 rfl rfl ?_
  refine OwnW.bipush (pc' := 111) (v := (8 : Int32)) at_109 rfl rfl ?_
  refine OwnW.iushr (pc' := 112) at_111 rfl ?_
  refine OwnW.sipush (pc' := 115) (v := (255 : Int32)) at_112 rfl rfl ?_
  refine OwnW.iand (pc' := 116) at_115 rfl ?_
  refine OwnW.i2c (pc' := 117) at_116 rfl ?_
  obtain ⟨c4, hc4⟩ : ∃ z, z = ((((p3.toUInt32 >>> ((8 : Int32) &&& 31).toUInt32).toInt32) &&& (255 : Int32)).toUInt32.toUInt16.toUInt32.toInt32) := ⟨_, rfl⟩
  rw [← hc4]
  show GoB0 l Z n0 OwnW.One1 h20 6 16 117 #[.val (.int p0), .val (.int p1), .val (.int p2), .val (.int p3), .val (.int k), .val (.ref pz), .val (.ref ad1), .val (.ref ad9), .val (.ref ad15_0), .val (.ref ad18), .unset, .unset, .unset, .unset] [(.int c4), (.int (1 : Int32)), (.ref ad18)]
  have le4 := (own_ch hc4).2
  have nc4 := (own_ch hc4).1
  obtain ⟨cl23, Ar23, qk23, Sz23, Mn23, Hv23, Gf23⟩ := id V20
  refine OwnW.stC (pc' := 118) at_117 Ar23 (inb_of Sz23 ⟨by decide, by decide⟩) ge_ad18 rfl ?_
  intro h23 W23
  rw [nc4] at W23
  have X24 : Ext h0 h23 := OwnW.ext_wr X21 W23 (Nat.le_trans (Nat.le_trans (Nat.le_trans (Nat.le_trans (Nat.le_trans (Nat.le_trans (Nat.le_trans (Nat.le_refl _) E1.1) (Nat.le_of_eq W3.size.symm)) (Nat.le_of_eq W6.size.symm)) E9.1) K12.1) K15.1) (Nat.le_of_eq g18.symm))
  have sz25 : n0 ≤ h23.size := (by rw [W23.size]; exact sz22)
  have V23 : Arv Z h23 ad18 kc18 .char (3 : Int32) [(.int c3), (.int c4), (.int (0 : Int32))] (.int (0 : Int32)) := Arv.set Ar23 qk23 Sz23 Mn23 Hv23 Gf23 (by rw [← nc4]; exact fits_nar_char _) W23 1 rfl (Nat.le_of_ble_eq_true rfl)
  refine OwnW.aload (pc' := 120) at_118 rfl (rfl) rfl ?_
  refine OwnW.iconst (pc' := 121) (v := (2 : Int32)) at_120 rfl rfl ?_
  refine OwnW.iloadN (pc' := 122) at_121 rfl rfl ?_
  refine OwnW.bipush (pc' := 124) (v := (16 : Int32)) at_122 rfl rfl ?_
  refine OwnW.iushr (pc' := 125) at_124 rfl ?_
  refine OwnW.sipush (pc' := 128) (v := (255 : Int32)) at_125 rfl rfl ?_
  refine OwnW.iand (pc' := 129) at_128 rfl ?_
  refine OwnW.i2c (pc' := 130) at_129 rfl ?_
  obtain ⟨c5, hc5⟩ : ∃ z, z = ((((p3.toUInt32 >>> ((16 : Int32) &&& 31).toUInt32).toInt32) &&& (255 : Int32)).toUInt32.toUInt16.toUInt32.toInt32) := ⟨_, rfl⟩
  rw [← hc5]
  show GoB0 l Z n0 OwnW.One1 h23 6 16 130 #[.val (.int p0), .val (.int p1), .val (.int p2), .val (.int p3), .val (.int k), .val (.ref pz), .val (.ref ad1), .val (.ref ad9), .val (.ref ad15_0), .val (.ref ad18), .unset, .unset, .unset, .unset] [(.int c5), (.int (2 : Int32)), (.ref ad18)]
  have le5 := (own_ch hc5).2
  have nc5 := (own_ch hc5).1
  obtain ⟨cl26, Ar26, qk26, Sz26, Mn26, Hv26, Gf26⟩ := id V23
  refine OwnW.stC (pc' := 131) at_130 Ar26 (inb_of Sz26 ⟨by decide, by decide⟩) ge_ad18 rfl ?_
  intro h26 W26
  rw [nc5] at W26
  have X27 : Ext h0 h26 := OwnW.ext_wr X24 W26 (Nat.le_trans (Nat.le_trans (Nat.le_trans (Nat.le_trans (Nat.le_trans (Nat.le_trans (Nat.le_trans (Nat.le_refl _) E1.1) (Nat.le_of_eq W3.size.symm)) (Nat.le_of_eq W6.size.symm)) E9.1) K12.1) K15.1) (Nat.le_of_eq g18.symm))
  have sz28 : n0 ≤ h26.size := (by rw [W26.size]; exact sz25)
  have V26 : Arv Z h26 ad18 kc18 .char (3 : Int32) [(.int c3), (.int c4), (.int c5)] (.int (0 : Int32)) := Arv.set Ar26 qk26 Sz26 Mn26 Hv26 Gf26 (by rw [← nc5]; exact fits_nar_char _) W26 2 rfl (Nat.le_of_ble_eq_true rfl)
  refine OwnW.newO (a0 := a0) (pc' := 134) (k' := 7) (n' := 20) at_131 (hw _ (List.mem_of_getElem? (i := 5) rfl)) (hw _ (List.mem_of_getElem? (i := 6) rfl)) (hw _ (List.mem_of_getElem? (i := 7) rfl)) rfl rfl (by decide) (by decide) rfl ?_
  intro h29 ad29 g29 E29 A29 D29
  have lt_ad1_ad29 : ad1 < ad29 := Nat.lt_of_lt_of_le (((((((F11.keep K12 (ninS (Nat.ne_of_lt lt_ad1_ad9) nin0)).keep K15 nin0).ext E18).other W20 (Nat.ne_of_lt lt_ad1_ad18)).other W23 (Nat.ne_of_lt lt_ad1_ad18)).other W26 (Nat.ne_of_lt lt_ad1_ad18))).lt (Nat.le_of_eq g29.symm)
  have lt_ad9_ad29 : ad9 < ad29 := Nat.lt_of_lt_of_le (((((((A9.keep K12).keep K15).ext E18).wr W20).wr W23).wr W26)).lt (Nat.le_of_eq g29.symm)
  have lt_ad15_0_ad29 : ad15_0 < ad29 := Nat.lt_of_lt_of_le (((((Fc15_0.ext E18).wr W20).wr W23).wr W26)).lt (Nat.le_of_eq g29.symm)
  have lt_ad18_ad29 : ad18 < ad29 := Nat.lt_of_lt_of_le (V26).lt (Nat.le_of_eq g29.symm)
  have ge_ad29 : n0 ≤ ad29 := Nat.le_trans sz28 (Nat.le_of_eq g29.symm)
  have X30 : Ext h0 h29 := OwnW.ext_trans X27 E29
  have sz_ad29 : n0 ≤ h29.size := Nat.le_trans sz28 E29.1
  have F29_coder : Fld Z h29 ad29 "java/lang/String" "coder" "B" (.int (0 : Int32)) := D29 (Or.inr (hw _ (List.mem_of_getElem? (i := 31) rfl))) (ty := .byte) (by decide)
  have F29_value : Fld Z h29 ad29 "java/lang/String" "value" "[B" .null := D29 (Or.inr (hw _ (List.mem_of_getElem? (i := 33) rfl))) (ty := (.array .byte)) (by decide)
  refine OwnW.dup (pc' := 135) at_134 rfl rfl ?_
  refine OwnW.aload (pc' := 137) at_135 rfl (rfl) rfl ?_
  have F31 := (V26.ext E29)
  refine OwnW.callI (a0 := a0) (pc' := 140) (W := 1) (k' := 8) (n' := 23) (argsL := [(.ref ad18)]) (rest := [(.ref ad29)]) at_137 rfl (hw _ (List.mem_of_getElem? (i := 8) rfl)) (hw _ (List.mem_of_getElem? (i := 9) rfl)) (hw _ (List.mem_of_getElem? (i := 7) rfl)) (hw _ (List.mem_of_getElem? (i := 10) rfl)) (by decide) (rm1_3 l Z a0 hw ad29 ad18 kc18 c3 c4 c5 cs h29 n0 sz_ad29 ge_ad29 A29 F29_value F29_coder F31 (S_cs.ext X30) le3 le4 le5 hcs) (by decide) (by decide) rfl rfl (by decide) (by decide) rfl pd_285bC29V rfl rfl rfl (Nat.le_of_ble_eq_true rfl) rfl ?_
  rintro h32 v32 ⟨rfl, K32⟩
  have X33 : Ext h0 h32 := OwnW.ext_keep X30 K32 (allS (Nat.le_trans (Nat.le_trans (Nat.le_trans (Nat.le_trans (Nat.le_trans (Nat.le_trans (Nat.le_trans (Nat.le_trans (Nat.le_trans (Nat.le_trans (Nat.le_trans (Nat.le_refl _) E1.1) (Nat.le_of_eq W3.size.symm)) (Nat.le_of_eq W6.size.symm)) E9.1) K12.1) K15.1) E18.1) (Nat.le_of_eq W20.size.symm)) (Nat.le_of_eq W23.size.symm)) (Nat.le_of_eq W26.size.symm)) (Nat.le_of_eq g29.symm)) all0)
  have sz34 : n0 ≤ h32.size := Nat.le_trans sz_ad29 K32.1
  show GoB0 l Z n0 OwnW.One1 h32 8 23 140 #[.val (.int p0), .val (.int p1), .val (.int p2), .val (.int p3), .val (.int k), .val (.ref pz), .val (.ref ad1), .val (.ref ad9), .val (.ref ad15_0), .val (.ref ad18), .unset, .unset, .unset, .unset] [(.ref ad29)]
  refine OwnW.astore (pc' := 142) (L' := #[.val (.int p0), .val (.int p1), .val (.int p2), .val (.int p3), .val (.int k), .val (.ref pz), .val (.ref ad1), .val (.ref ad9), .val (.ref ad15_0), .val (.ref ad18), .val (.ref ad29), .unset, .unset, .unset]) at_140 (rfl) rfl rfl ?_
  refine OwnW.newO (a0 := a0) (pc' := 145) (k' := 9) (n' := 27) at_142 (hw _ (List.mem_of_getElem? (i := 48) rfl)) (hw _ (List.mem_of_getElem? (i := 49) rfl)) (hw _ (List.mem_of_getElem? (i := 50) rfl)) rfl rfl (by decide) (by decide) rfl ?_
  intro h35 ad35 g35 E35 A35 D35
  have lt_ad1_ad35 : ad1 < ad35 := Nat.lt_of_lt_of_le (((((((((F11.keep K12 (ninS (Nat.ne_of_lt lt_ad1_ad9) nin0)).keep K15 nin0).ext E18).other W20 (Nat.ne_of_lt lt_ad1_ad18)).other W23 (Nat.ne_of_lt lt_ad1_ad18)).other W26 (Nat.ne_of_lt lt_ad1_ad18)).ext E29).keep K32 (ninS (Nat.ne_of_lt lt_ad1_ad29) nin0))).lt (Nat.le_of_eq g35.symm)
  have lt_ad9_ad35 : ad9 < ad35 := Nat.lt_of_lt_of_le (((((((((A9.keep K12).keep K15).ext E18).wr W20).wr W23).wr W26).ext E29).keep K32)).lt (Nat.le_of_eq g35.symm)
  have lt_ad15_0_ad35 : ad15_0 < ad35 := Nat.lt_of_lt_of_le (((((((Fc15_0.ext E18).wr W20).wr W23).wr W26).ext E29).keep K32)).lt (Nat.le_of_eq g35.symm)
  have lt_ad18_ad35 : ad18 < ad35 := Nat.lt_of_lt_of_le ((F31.keep K32 (ninS (Nat.ne_of_lt lt_ad18_ad29) nin0))).lt (Nat.le_of_eq g35.symm)
  have lt_ad29_ad35 : ad29 < ad35 := Nat.lt_of_lt_of_le ((A29.keep K32)).lt (Nat.le_of_eq g35.symm)
  have ge_ad35 : n0 ≤ ad35 := Nat.le_trans sz34 (Nat.le_of_eq g35.symm)
  have X36 : Ext h0 h35 := OwnW.ext_trans X33 E35
  have sz_ad35 : n0 ≤ h35.size := Nat.le_trans sz34 E35.1
  have F35_name : Fld Z h35 ad35 "com/example/vestline/vestline/cli/Option" "name" "Ljava/lang/String;" .null := D35 (Or.inr (hw _ (List.mem_of_getElem? (i := 56) rfl))) (ty := (.object "java/lang/String")) (by decide)
  have F35_value : Fld Z h35 ad35 "com/example/vestline/vestline/cli/Option" "value" "Ljava/lang/String;" .null := D35 (Or.inr (hw _ (List.mem_of_getElem? (i := 58) rfl))) (ty := (.object "java/lang/String")) (by decide)
  have F35_named : Fld Z h35 ad35 "com/example/vestline/vestline/cli/Option" "named" "Ljava/lang/String;" .null := D35 (Or.inr (hw _ (List.mem_of_getElem? (i := 60) rfl))) (ty := (.object "java/lang/String")) (by decide)
  have F35_presence : Fld Z h35 ad35 "com/example/vestline/vestline/cli/Option" "presence" "Lcom/example/vestline/vestline/cli/Option$Presence;" .null := D35 (Or.inr (hw _ (List.mem_of_getElem? (i := 62) rfl))) (ty := (.object "com/example/vestline/vestline/cli/Option$Presence")) (by decide)
  refine OwnW.dup (pc' := 146) at_145 rfl rfl ?_
  refine OwnW.aload (pc' := 148) at_146 rfl (rfl) rfl ?_
  refine OwnW.aload (pc' := 150) at_148 rfl (rfl) rfl ?_
  refine OwnW.aload (pc' := 152) at_150 rfl (rfl) rfl ?_
  refine OwnW.aload (pc' := 154) at_152 rfl (rfl) rfl ?_
  refine OwnW.callI (a0 := a0) (pc' := 157) (W := 1) (k' := 9) (n' := 27) (argsL := [(.ref ad9), (.ref ad15_0), (.ref ad29), (.ref pz)]) (rest := [(.ref ad35)]) at_154 rfl (hw _ (List.mem_of_getElem? (i := 51) rfl)) (hw _ (List.mem_of_getElem? (i := 52) rfl)) (hw _ (List.mem_of_getElem? (i := 50) rfl)) (hw _ (List.mem_of_getElem? (i := 53) rfl)) (by decide) (rm11 l Z a0 hw ad35 ad9 ad15_0 ad29 pz h35 n0 sz_ad35 ge_ad35 A35 F35_name F35_value F35_named F35_presence) (by decide) (by decide) rfl rfl (by decide) (by decide) rfl pd_28Ljava2flang2fString3bLjava2flang2fString3bLjava2flang2fString3bLcom2fexample2fvestline2fvestline2fcli2fOption24Presence3b29V rfl rfl rfl (Nat.le_of_ble_eq_true rfl) rfl ?_
  rintro h37 v37 ⟨rfl, K37, E37, F37_name, F37_value, F37_named, F37_presence⟩
  have X38 : Ext h0 h37 := OwnW.ext_keep X36 K37 (allS (Nat.le_trans (Nat.le_trans (Nat.le_trans (Nat.le_trans (Nat.le_trans (Nat.le_trans (Nat.le_trans (Nat.le_trans (Nat.le_trans (Nat.le_trans (Nat.le_trans (Nat.le_trans (Nat.le_trans (Nat.le_refl _) E1.1) (Nat.le_of_eq W3.size.symm)) (Nat.le_of_eq W6.size.symm)) E9.1) K12.1) K15.1) E18.1) (Nat.le_of_eq W20.size.symm)) (Nat.le_of_eq W23.size.symm)) (Nat.le_of_eq W26.size.symm)) E29.1) K32.1) (Nat.le_of_eq g35.symm)) all0)
  have sz39 : n0 ≤ h37.size := Nat.le_trans sz_ad35 K37.1
  show GoB0 l Z n0 OwnW.One1 h37 9 27 157 #[.val (.int p0), .val (.int p1), .val (.int p2), .val (.int p3), .val (.int k), .val (.ref pz), .val (.ref ad1), .val (.ref ad9), .val (.ref ad15_0), .val (.ref ad18), .val (.ref ad29), .unset, .unset, .unset] [(.ref ad35)]
  refine OwnW.astore (pc' := 159) (L' := #[.val (.int p0), .val (.int p1), .val (.int p2), .val (.int p3), .val (.int k), .val (.ref pz), .val (.ref ad1), .val (.ref ad9), .val (.ref ad15_0), .val (.ref ad18), .val (.ref ad29), .val (.ref ad35), .unset, .unset]) at_157 (rfl) rfl rfl ?_
  refine OwnW.aload (pc' := 161) at_159 rfl (rfl) rfl ?_
  refine OwnW.aload (pc' := 163) at_161 rfl (rfl) rfl ?_
  refine OwnW.aload (pc' := 165) at_163 rfl (rfl) rfl ?_
  refine OwnW.callS (a0 := a0) (pc' := 168) (W := 0) (k' := 10) (n' := 31) (argsL := [(.ref ad9), (.ref ad15_0), (.ref ad29)]) (rest := []) at_165 (hw _ (List.mem_of_getElem? (i := 63) rfl)) (hw _ (List.mem_of_getElem? (i := 64) rfl)) (hw _ (List.mem_of_getElem? (i := 50) rfl)) (hw _ (List.mem_of_getElem? (i := 65) rfl)) (by decide) (rm12 l Z a0 hw ad9 ad15_0 ad29 e_REQUIRED h37 n0 sz39 (S_REQUIRED.ext X38)) (by decide) (by decide) rfl rfl (by decide) (by decide) rfl pd_28Ljava2flang2fString3bLjava2flang2fString3bLjava2flang2fString3b29Lcom2fexample2fvestline2fvestline2fcli2fOption3b rfl rfl rfl (Nat.le_of_ble_eq_true rfl) rfl ?_
  rintro h40 v40 ⟨ad40_0, rfl, K40, gl40_0, Fc40_0, Fc40_1⟩
  have lt_ad1_ad40_0 : ad1 < ad40_0 := Nat.lt_of_lt_of_le (((((((((((F11.keep K12 (ninS (Nat.ne_of_lt lt_ad1_ad9) nin0)).keep K15 nin0).ext E18).other W20 (Nat.ne_of_lt lt_ad1_ad18)).other W23 (Nat.ne_of_lt lt_ad1_ad18)).other W26 (Nat.ne_of_lt lt_ad1_ad18)).ext E29).keep K32 (ninS (Nat.ne_of_lt lt_ad1_ad29) nin0)).ext E35).keep K37 (ninS (Nat.ne_of_lt lt_ad1_ad35) nin0))).lt gl40_0
  have lt_ad9_ad40_0 : ad9 < ad40_0 := Nat.lt_of_lt_of_le (((((((((((A9.keep K12).keep K15).ext E18).wr W20).wr W23).wr W26).ext E29).keep K32).ext E35).keep K37)).lt gl40_0
  have lt_ad15_0_ad40_0 : ad15_0 < ad40_0 := Nat.lt_of_lt_of_le (((((((((Fc15_0.ext E18).wr W20).wr W23).wr W26).ext E29).keep K32).ext E35).keep K37)).lt gl40_0
  have lt_ad18_ad40_0 : ad18 < ad40_0 := Nat.lt_of_lt_of_le ((((F31.keep K32 (ninS (Nat.ne_of_lt lt_ad18_ad29) nin0)).ext E35).keep K37 (ninS (Nat.ne_of_lt lt_ad18_ad35) nin0))).lt gl40_0
  have lt_ad29_ad40_0 : ad29 < ad40_0 := Nat.lt_of_lt_of_le ((((A29.keep K32).ext E35).keep K37)).lt gl40_0
  have lt_ad35_ad40_0 : ad35 < ad40_0 := Nat.lt_of_lt_of_le (E37).lt gl40_0
  have ge_ad40_0 : n0 ≤ ad40_0 := Nat.le_trans sz39 gl40_0
  have X41 : Ext h0 h40 := OwnW.ext_keep X38 K40 all0
  have sz42 : n0 ≤ h40.size := Nat.le_trans sz39 K40.1
  show GoB0 l Z n0 OwnW.One1 h40 10 31 168 #[.val (.int p0), .val (.int p1), .val (.int p2), .val (.int p3), .val (.int k), .val (.ref pz), .val (.ref ad1), .val (.ref ad9), .val (.ref ad15_0), .val (.ref ad18), .val (.ref ad29), .val (.ref ad35), .unset, .unset] [(.ref ad40_0)]
  refine OwnW.astore (pc' := 170) (L' := #[.val (.int p0), .val (.int p1), .val (.int p2), .val (.int p3), .val (.int k), .val (.ref pz), .val (.ref ad1), .val (.ref ad9), .val (.ref ad15_0), .val (.ref ad18), .val (.ref ad29), .val (.ref ad35), .val (.ref ad40_0), .unset]) at_168 (rfl) rfl rfl ?_
  refine OwnW.iload (pc' := 172) at_170 rfl rfl ?_
  suffices J172_180 : ∀ (exp : Int32), exp = (if k = (0 : Int32) then (1 : Int32) else (0 : Int32)) → GoB0 l Z n0 OwnW.One1 h40 10 31 180 #[.val (.int p0), .val (.int p1), .val (.int p2), .val (.int p3), .val (.int k), .val (.ref pz), .val (.ref ad1), .val (.ref ad9), .val (.ref ad15_0), .val (.ref ad18), .val (.ref ad29), .val (.ref ad35), .val (.ref ad40_0), .unset] [(.int exp)] by
    by_cases hc172 : k = (0 : Int32)
    ·
      refine OwnW.ifcN (pc' := 175) at_172 ((if0 _ _).trans (teq hc172).2) rfl ?_
      refine OwnW.iconst (pc' := 176) (v := (1 : Int32)) at_175 rfl rfl ?_
      refine OwnW.goto (pc' := 180) at_176 (by decide) (by decide) ?_
      exact J172_180 _ (by first | simp only [if_pos hc172] | rfl)
    ·
      refine OwnW.ifcY (pc' := 179) at_172 ((if0 _ _).trans (feq hc172).2) (by decide) (by decide) ?_
      refine OwnW.iconst (pc' := 180) (v := (0 : Int32)) at_179 rfl rfl ?_
      exact J172_180 _ (by first | simp only [if_neg hc172] | rfl)
  intro exp hexp
  refine OwnW.istore (pc' := 182) (L' := #[.val (.int p0), .val (.int p1), .val (.int p2), .val (.int p3), .val (.int k), .val (.ref pz), .val (.ref ad1), .val (.ref ad9), .val (.ref ad15_0), .val (.ref ad18), .val (.ref ad29), .val (.ref ad35), .val (.ref ad40_0), .val (.int exp)]) at_180 rfl rfl ?_
  refine OwnW.aload (pc' := 184) at_182 rfl (rfl) rfl ?_
  have F43 := (F37_presence.keep K40 nin0)
  have F44 := (E37.keep K40)
  refine OwnW.callV0 (a0 := a0) (pc' := 187) (W := 0) (k' := 10) (n' := 31) (argsL := []) (rest := []) (St' := [(.int (f13 ad35 pz e_REQUIRED))]) at_184 (hw _ (List.mem_of_getElem? (i := 69) rfl)) (hw _ (List.mem_of_getElem? (i := 70) rfl)) (hw _ (List.mem_of_getElem? (i := 72) rfl)) (hw _ (List.mem_of_getElem? (i := 71) rfl)) (hw _ (List.mem_of_getElem? (i := 50) rfl)) (hw _ (List.mem_of_getElem? (i := 73) rfl)) (by decide) F44 (rm13 l Z a0 hw ad35 pz e_REQUIRED h40 n0 F43 (S_REQUIRED.ext X41)) (by decide) (by decide) rfl rfl (by decide) (by decide) rfl pd_2829Z rfl rfl rfl (Nat.le_of_ble_eq_true rfl) rfl rfl ?_
  refine OwnW.iload (pc' := 189) at_187 rfl rfl ?_
  by_cases hc189 : (f13 ad35 pz e_REQUIRED) = exp
  ·
    refine OwnW.icmpN (pc' := 192) at_189 (teq hc189).2 rfl ?_
    refine OwnW.aload (pc' := 194) at_192 rfl (rfl) rfl ?_
    refine OwnW.callV0 (a0 := a0) (pc' := 197) (W := 0) (k' := 10) (n' := 31) (argsL := []) (rest := []) (St' := [(.int (f13 ad40_0 e_REQUIRED e_REQUIRED))]) at_194 (hw _ (List.mem_of_getElem? (i := 69) rfl)) (hw _ (List.mem_of_getElem? (i := 70) rfl)) (hw _ (List.mem_of_getElem? (i := 72) rfl)) (hw _ (List.mem_of_getElem? (i := 71) rfl)) (hw _ (List.mem_of_getElem? (i := 50) rfl)) (hw _ (List.mem_of_getElem? (i := 73) rfl)) (by decide) Fc40_0 (rm13 l Z a0 hw ad40_0 e_REQUIRED e_REQUIRED h40 n0 Fc40_1 (S_REQUIRED.ext X41)) (by decide) (by decide) rfl rfl (by decide) (by decide) rfl pd_2829Z rfl rfl rfl (Nat.le_of_ble_eq_true rfl) rfl rfl ?_
    rw [show (f13 ad40_0 e_REQUIRED e_REQUIRED) = (1 : Int32) from if_pos rfl]
    show GoB0 l Z n0 OwnW.One1 h40 10 31 197 #[.val (.int p0), .val (.int p1), .val (.int p2), .val (.int p3), .val (.int k), .val (.ref pz), .val (.ref ad1), .val (.ref ad9), .val (.ref ad15_0), .val (.ref ad18), .val (.ref ad29), .val (.ref ad35), .val (.ref ad40_0), .val (.int exp)] [(.int (1 : Int32))]
    refine OwnW.ifcN (pc' := 200) at_197 ((if0 _ _).trans (feq (by decide)).1) rfl ?_
    refine OwnW.iconst (pc' := 201) (v := (1 : Int32)) at_200 rfl rfl ?_
    refine OwnW.goto (pc' := 205) at_201 (by decide) (by decide) ?_
    exact OwnW.retN (t := .boolean) at_205 rfl (by simp) rfl (by decide) (by decide) (rfl)
  ·
    refine OwnW.icmpY (pc' := 204) at_189 (feq hc189).2 (by decide) (by decide) ?_
    refine OwnW.iconst (pc' := 205) (v := (0 : Int32)) at_204 rfl rfl ?_
    exact OwnW.retN (t := .boolean) at_205 rfl (by simp) rfl (by decide) (by decide) (absurd (own_law hpz hexp (O_READ_BY_PLAN_ordinal.ne O_REQUIRED_ordinal (by decide)) (O_REQUIRED_ordinal.ne O_OPTIONAL_ordinal (by decide))) hc189)
set_option maxRecDepth 65536 in
set_option maxHeartbeats 400000000 in
theorem comes_1 {Post : Tables → Env → Array Value → State → Outcome → State → Prop} (hpost : ∀ tb e args s v u, (limb_1_1.after args s (.returned v) u = true ∧ limb_1_2.after args s (.returned v) u = true ∧ True) → FrameEnd s (.returned v) u (Jvm.fieldLocs frame_1_writes args s ++ Jvm.arrayLocs frame_1_arrays args s ++ Jvm.staticLocs frame_1_statics s) 32 128 → Post tb e args s (.returned v) u) :
    ArmFor flags0 classFile x code maxLocals ret World_1 tables_1 room_1 Calls_1 rest_1 Pre_1 Post := by
  intro l hfl _ _ p e ha hc hk s m args below hf hA hF happ hP
  obtain ⟨hcalls, hrest, hpre⟩ := hP
  obtain ⟨-, -, -, hnamed, -, -, -, hat⟩ := (Spec.applies_iff hf).mp happ
  obtain ⟨hg, hn⟩ := and_e (Cond.before_iff.mp (show (Jvm.Cond.and given_1 narrow_1).before args s = true from hpre))
  obtain ⟨hcount, hr0⟩ := and_e hg
  obtain ⟨w0, w1, w2, w3, rfl⟩ : ∃ w0 w1 w2 w3 : Value, args = #[w0, w1, w2, w3] := by
    have hs : args.size = 4 := by simpa [Cond.value, given_1] using hcount
    obtain ⟨L⟩ := args
    match L, hs with
    | [w0, w1, w2, w3], _ => exact ⟨w0, w1, w2, w3, rfl⟩
  have hw := fun d (hd : d ∈ tables_1) => atoms_spec (ws := Jvm.Cond.code x code maxLocals ret :: tables_1) hat d (List.mem_cons_of_mem _ hd)
  have hfit : Fit s := fun {y c} hc i hi => by
    obtain ⟨ha, rfl⟩ := Array.getElem?_eq_some_iff.mp hc
    have q := List.all_eq_true.mp ((Array.all_eq_true_iff_forall_mem.mp hF) _ (Array.getElem_mem ha)) i (List.mem_range.mpr hi)
    simpa [Array.getElem?_eq_getElem hi] using q
  obtain ⟨hq0, hr1⟩ := and_e hr0
  obtain ⟨i0, ei0⟩ := is_v hq0
  obtain rfl : w0 = (.int i0) := Option.some.inj ei0
  obtain ⟨hq1, hr2⟩ := and_e hr1
  obtain ⟨i1, ei1⟩ := is_v hq1
  obtain rfl : w1 = (.int i1) := Option.some.inj ei1
  obtain ⟨hq2, hr3⟩ := and_e hr2
  obtain ⟨i2, ei2⟩ := is_v hq2
  obtain rfl : w2 = (.int i2) := Option.some.inj ei2
  obtain ⟨i3, ei3⟩ := is_v hr3
  obtain rfl : w3 = (.int i3) := Option.some.inj ei3
  obtain ⟨hN0, hM0⟩ := and_e hn
  obtain ⟨hN1, hM1⟩ := and_e hM0
  obtain ⟨hN2, hM2⟩ := and_e hM1
  obtain ⟨hN3, hM3⟩ := and_e hM2
  obtain ⟨hN4, hM4⟩ := and_e hM3
  have hN5 := hM4
  obtain ⟨e_REQUIRED, ev_REQUIRED⟩ := exa_v hN0
  have S_REQUIRED : Sta s s.heap "com/example/vestline/vestline/cli/Option$Presence" "REQUIRED" "Lcom/example/vestline/vestline/cli/Option$Presence;" (.ref e_REQUIRED) := Sta.start ev_REQUIRED (Or.inr ⟨(hw _ (List.mem_of_getElem? (i := 2) rfl)), (hw _ (List.mem_of_getElem? (i := 3) rfl))⟩)
  have E_REQUIRED : Exa s s.heap e_REQUIRED "com/example/vestline/vestline/cli/Option$Presence" := Exa.start ev_REQUIRED hN0
  obtain ⟨e_READ_BY_PLAN, ev_READ_BY_PLAN⟩ := exa_v hN1
  have S_READ_BY_PLAN : Sta s s.heap "com/example/vestline/vestline/cli/Option$Presence" "READ_BY_PLAN" "Lcom/example/vestline/vestline/cli/Option$Presence;" (.ref e_READ_BY_PLAN) := Sta.start ev_READ_BY_PLAN (Or.inr ⟨(hw _ (List.mem_of_getElem? (i := 2) rfl)), (hw _ (List.mem_of_getElem? (i := 75) rfl))⟩)
  have E_READ_BY_PLAN : Exa s s.heap e_READ_BY_PLAN "com/example/vestline/vestline/cli/Option$Presence" := Exa.start ev_READ_BY_PLAN hN1
  obtain ⟨e_OPTIONAL, ev_OPTIONAL⟩ := exa_v hN4
  have S_OPTIONAL : Sta s s.heap "com/example/vestline/vestline/cli/Option$Presence" "OPTIONAL" "Lcom/example/vestline/vestline/cli/Option$Presence;" (.ref e_OPTIONAL) := Sta.start ev_OPTIONAL (Or.inr ⟨(hw _ (List.mem_of_getElem? (i := 2) rfl)), (hw _ (List.mem_of_getElem? (i := 77) rfl))⟩)
  have E_OPTIONAL : Exa s s.heap e_OPTIONAL "com/example/vestline/vestline/cli/Option$Presence" := Exa.start ev_OPTIONAL hN4
  have O_READ_BY_PLAN_ordinal : Fld s s.heap e_READ_BY_PLAN "java/lang/Enum" "ordinal" "I" (.int (1 : Int32)) := Fld.start ((fld_at ev_READ_BY_PLAN).symm.trans (OwnW.eqI hN2 (Term.int_eval (1 : Int32))))
  have O_REQUIRED_ordinal : Fld s s.heap e_REQUIRED "java/lang/Enum" "ordinal" "I" (.int (0 : Int32)) := Fld.start ((fld_at ev_REQUIRED).symm.trans (OwnW.eqI hN3 (Term.int_eval (0 : Int32))))
  have O_OPTIONAL_ordinal : Fld s s.heap e_OPTIONAL "java/lang/Enum" "ordinal" "I" (.int (2 : Int32)) := Fld.start ((fld_at ev_OPTIONAL).symm.trans (OwnW.eqI hN5 (Term.int_eval (2 : Int32))))
  obtain ⟨hsets, hown0⟩ := atoms_of _ (rest_1_c_eq ▸ (show rest_1_c.before _ s = true from hrest))
  have n3 := not_v (Cond.before_iff.mp (hsets _ (List.mem_of_getElem? (i := 2) rfl)))
  obtain ⟨cs, e6⟩ := is_v (Cond.before_iff.mp (hsets _ (List.mem_of_getElem? (i := 1) rfl)))
  have S_cs : Sta s s.heap "java/lang/String" "COMPACT_STRINGS" "Z" (.int cs) := Sta.start e6 (Or.inl (hsets _ (List.mem_of_getElem? (i := 0) rfl)))
  have hcs : ¬ (cs = (0 : Int32)) := gotF (Cond.eq_ints e6 (Term.int_eval (0))) n3
  obtain ⟨n, o, h1, h2, h3, _, L, rfl, ⟨rfl, N⟩, hq⟩ := rm0 l s _ hw i0 i1 i2 i3 e_REQUIRED e_READ_BY_PLAN e_OPTIONAL cs s.heap s.heap.size (Nat.le_refl _) S_REQUIRED E_REQUIRED S_READ_BY_PLAN E_READ_BY_PLAN S_OPTIONAL E_OPTIONAL O_READ_BY_PLAN_ordinal O_REQUIRED_ordinal O_OPTIONAL_ordinal S_cs hcs tables_1 p e ha hc hk s m _ below hf ((Spec.applies_iff_loose hf).mp happ).1 ⟨rfl, State.Warmed39.refl s, rfl⟩ trivial
  refine ⟨n, _, h1, h2, h3, hpost _ _ _ _ _ _ ⟨Cond.after_iff.mpr rfl, Cond.after_iff.mpr (eq_i res_at (Term.int_eval (1)) rfl), trivial⟩ ⟨hq.1, hq.2.1, (hq.2.2.sift fun y hy => Or.inr (N y hy)).mono (by decide) (by decide)⟩⟩
theorem main_1_1 : Claimed_1_1 := comes_1 fun _ _ _ _ _ _ h hF => ⟨h.1, hF⟩
theorem main_1_2 : Claimed_1_2 := comes_1 fun _ _ _ _ _ _ h hF => ⟨h.2.1, hF⟩
end Jvm.Pilot.@@N@@
namespace Jvm.Pilot.@@N@@
open Jvm Jvm.ClassFile Sem Op Lib Jvm.Free Jvm.Stand Jvm.Pilot.@@N@@.Jvm.D
/-! MADE BY PROGRAM (witnessworld.py) out of the Statement's table words and the real class files: 22 classes; the members and pool entries that the words name. The judged class is class 1, her method 1. -/
namespace start1
open Jvm.ClassFile
def u (s : String) : CpInfo := .utf8 (stringToUtf16 s)
/-- a pool by its gaps: so many unusable entries, then the entry; so many at the end -/
def gap : Nat → List CpInfo → List CpInfo
  | 0, r => r
  | n + 1, r => .unusable :: gap n r
def poolList (es : List (Nat × CpInfo)) (last : Nat) : List CpInfo := es.foldr (fun e r => gap e.1 (e.2 :: r)) (gap last [])
def pool (es : List (Nat × CpInfo)) (last : Nat) : Array CpInfo := ⟨poolList es last⟩
def fileOf (pool : Array CpInfo) (this : Nat) (attrs : Array Attribute := #[]) (ms : Array MethodInfo := #[]) (fl : Nat := 33) (sup : Nat := 0) (ifs : Array Nat := #[]) (fds : Array FieldInfo := #[]) : ClassFile where
  minorVersion := 0
  majorVersion := 65
  constantPool := pool
  accessFlags := fl
  thisClass := this
  superClass := sup
  interfaces := ifs
  fields := fds
  methods := ms
  attributes := attrs
def plain (name : String) (sup : Option ClassId) : Class where
  name := name
  kind := .ordinary
  loader := none
  accessFlags := 33
  super := sup
  interfaces := #[]
  cf := none
  fields := #[]
  methods := #[]
  instanceTypes := #[]
  staticTypes := #[]
  resolved := #[]
  callSites := []
  init := .initialized
  statics := none
  mirror := none

def pool0 : Array CpInfo := pool [(5, u "<init>"), (0, u "()V"), (1, .class_ 10), (1, u "java/lang/Object")] 113

def k0c0 : Code := { maxStack := 0, maxLocals := 1, code := object_method_1_code, exceptionTable := #[], attributes := #[] }
def k0m0 : Method := { name := "<init>", desc := "()V", sig := { parameters := [], returnType := none }, accessFlags := 1, code := some k0c0 }
/-- java/lang/Object -/
def k0 : Class := { plain "java/lang/Object" none with
  accessFlags := 33
  interfaces := #[]
  cf := some (fileOf pool0 8 #[] #[{ accessFlags := 1, nameIndex := 5, descriptorIndex := 6, attributes := #[] }] 33 0 #[] #[])
  fields := #[]
  methods := #[k0m0]
  instanceTypes := #[]
  staticTypes := #[]
  resolved := Array.replicate 124 none
  statics := none }

def pool1 : Array CpInfo := pool [(2, .class_ 4), (1, u "java/lang/Object"), (0, u "<init>"), (0, u "()V"), (0, .integer 2147483647), (0, .fieldref 9 10), (0, .class_ 11), (0, .nameAndType 12 13), (0, u "com/example/vestline/vestline/cli/Option$Presence"), (0, u "REQUIRED"), (0, u "Lcom/example/vestline/vestline/cli/Option$Presence;"), (0, .fieldref 9 15), (0, .nameAndType 16 13), (0, u "READ_BY_PLAN"), (0, .fieldref 9 18), (0, .nameAndType 19 13), (0, u "OPTIONAL"), (0, .class_ 21), (0, u "java/lang/String"), (0, .methodref 20 23), (0, .nameAndType 5 24), (0, u "([C)V"), (0, .methodref 20 26), (0, .nameAndType 27 28), (0, u "valueOf"), (0, u "(C)Ljava/lang/String;"), (0, .class_ 30), (0, u "com/example/vestline/vestline/cli/Option"), (0, .methodref 29 32), (0, .nameAndType 5 33), (0, u "(Ljava/lang/String;Ljava/lang/String;Ljava/lang/String;Lcom/example/vestline/vestline/cli/Option$Presence;)V"), (0, .methodref 29 35), (0, .nameAndType 36 37), (0, u "required"), (0, u "(Ljava/lang/String;Ljava/lang/String;Ljava/lang/String;)Lcom/example/vestline/vestline/cli/Option;"), (0, .methodref 29 39), (0, .nameAndType 40 41), (0, u "isRequired"), (0, u "()Z"), (0, .class_ 43), (0, u "com/example/vestline/vestline/cli/OptionIsRequiredPinLaw"), (2, u "law"), (0, u "(IIII)Z")] 7

def k1m0 : Method := { name := "<init>", desc := "()V", sig := { parameters := [], returnType := none }, accessFlags := 1, code := none }
def k1c1 : Code := { maxStack := 6, maxLocals := 14, code := code, exceptionTable := #[], attributes := #[] }
def k1m1 : Method := { name := "law", desc := "(IIII)Z", sig := { parameters := [.int, .int, .int, .int], returnType := some .boolean }, accessFlags := 9, code := some k1c1 }
/-- com/example/vestline/vestline/cli/OptionIsRequiredPinLaw -/
def k1 : Class := { plain "com/example/vestline/vestline/cli/OptionIsRequiredPinLaw" (some 0) with
  accessFlags := 49
  interfaces := #[]
  cf := some (fileOf pool1 42 #[] #[{ accessFlags := 1, nameIndex := 5, descriptorIndex := 6, attributes := #[] }, { accessFlags := 9, nameIndex := 46, descriptorIndex := 47, attributes := #[] }] 49 2 #[] #[])
  fields := #[]
  methods := #[k1m0, k1m1]
  instanceTypes := #[]
  staticTypes := #[]
  resolved := Array.replicate 55 none
  statics := none }

def pool2 : Array CpInfo := pool [(1, .class_ 2), (0, u "java/lang/constant/Constable"), (0, .class_ 4), (0, u "java/lang/Object")] 6

/-- java/lang/constant/Constable -/
def k2 : Class := { plain "java/lang/constant/Constable" (some 0) with
  accessFlags := 1537
  interfaces := #[]
  cf := some (fileOf pool2 1 #[] #[] 1537 3 #[] #[])
  fields := #[]
  methods := #[]
  instanceTypes := #[]
  staticTypes := #[]
  resolved := Array.replicate 11 none
  statics := none }

def pool3 : Array CpInfo := pool [(1, .class_ 2), (0, u "java/lang/Comparable"), (0, .class_ 4), (0, u "java/lang/Object")] 7

/-- java/lang/Comparable -/
def k3 : Class := { plain "java/lang/Comparable" (some 0) with
  accessFlags := 1537
  interfaces := #[]
  cf := some (fileOf pool3 1 #[] #[] 1537 3 #[] #[])
  fields := #[]
  methods := #[]
  instanceTypes := #[]
  staticTypes := #[]
  resolved := Array.replicate 12 none
  statics := none }

def pool4 : Array CpInfo := pool [(1, .class_ 2), (0, u "java/io/Serializable"), (0, .class_ 4), (0, u "java/lang/Object")] 2

/-- java/io/Serializable -/
def k4 : Class := { plain "java/io/Serializable" (some 0) with
  accessFlags := 1537
  interfaces := #[]
  cf := some (fileOf pool4 1 #[] #[] 1537 3 #[] #[])
  fields := #[]
  methods := #[]
  instanceTypes := #[]
  staticTypes := #[]
  resolved := Array.replicate 7 none
  statics := none }

def pool5 : Array CpInfo := pool [(2, .class_ 4), (1, u "java/lang/Enum"), (0, u "name"), (0, u "Ljava/lang/String;"), (2, u "ordinal"), (0, u "I"), (1, .class_ 14), (1, u "java/lang/Object"), (4, u "hash"), (86, .class_ 108), (1, u "java/lang/Enum$EnumDesc"), (2, .class_ 112), (0, u "java/lang/constant/Constable"), (0, .class_ 114), (0, u "java/lang/Comparable"), (0, .class_ 116), (0, u "java/io/Serializable")] 87

/-- java/lang/Enum -/
def k5 : Class := { plain "java/lang/Enum" (some 0) with
  accessFlags := 1057
  interfaces := #[2, 3, 4]
  cf := some (fileOf pool5 2 #[.nestMembers #[106]] #[] 1057 12 #[111, 113, 115] #[{ accessFlags := 18, nameIndex := 5, descriptorIndex := 6, attributes := #[] }, { accessFlags := 18, nameIndex := 9, descriptorIndex := 10, attributes := #[] }, { accessFlags := 2, nameIndex := 19, descriptorIndex := 10, attributes := #[] }])
  fields := #[{ name := "name", type := (.object "java/lang/String"), accessFlags := 18, slot := 0, constantValue := 0 }, { name := "ordinal", type := .int, accessFlags := 18, slot := 1, constantValue := 0 }, { name := "hash", type := .int, accessFlags := 2, slot := 2, constantValue := 0 }]
  methods := #[]
  instanceTypes := #[(.object "java/lang/String"), .int, .int]
  staticTypes := #[]
  resolved := Array.replicate 204 none
  statics := none }

def pool6 : Array CpInfo := pool [(1, .class_ 2), (0, u "com/example/vestline/vestline/cli/Option$Presence"), (2, u "REQUIRED"), (0, u "Lcom/example/vestline/vestline/cli/Option$Presence;"), (2, u "READ_BY_PLAN"), (2, u "OPTIONAL"), (2, u "$VALUES"), (0, u "[Lcom/example/vestline/vestline/cli/Option$Presence;"), (6, .class_ 25), (1, u "java/lang/Enum"), (8, u "described"), (0, u "Ljava/lang/String;"), (29, .class_ 66), (0, u "com/example/vestline/vestline/cli/Option")] 2

/-- com/example/vestline/vestline/cli/Option$Presence -/
def k6 : Class := { plain "com/example/vestline/vestline/cli/Option$Presence" (some 5) with
  accessFlags := 16432
  interfaces := #[]
  cf := some (fileOf pool6 1 #[.nestHost 65] #[] 16432 23 #[] #[{ accessFlags := 16409, nameIndex := 5, descriptorIndex := 6, attributes := #[] }, { accessFlags := 16409, nameIndex := 9, descriptorIndex := 6, attributes := #[] }, { accessFlags := 16409, nameIndex := 12, descriptorIndex := 6, attributes := #[] }, { accessFlags := 18, nameIndex := 34, descriptorIndex := 35, attributes := #[] }, { accessFlags := 4122, nameIndex := 15, descriptorIndex := 16, attributes := #[] }])
  fields := #[{ name := "REQUIRED", type := (.object "com/example/vestline/vestline/cli/Option$Presence"), accessFlags := 16409, slot := 0, constantValue := 0 }, { name := "READ_BY_PLAN", type := (.object "com/example/vestline/vestline/cli/Option$Presence"), accessFlags := 16409, slot := 1, constantValue := 0 }, { name := "OPTIONAL", type := (.object "com/example/vestline/vestline/cli/Option$Presence"), accessFlags := 16409, slot := 2, constantValue := 0 }, { name := "described", type := (.object "java/lang/String"), accessFlags := 18, slot := 3, constantValue := 0 }, { name := "$VALUES", type := (.array (.object "com/example/vestline/vestline/cli/Option$Presence")), accessFlags := 4122, slot := 3, constantValue := 0 }]
  methods := #[]
  instanceTypes := #[(.object "java/lang/String"), .int, .int, (.object "java/lang/String")]
  staticTypes := #[(.object "com/example/vestline/vestline/cli/Option$Presence"), (.object "com/example/vestline/vestline/cli/Option$Presence"), (.object "com/example/vestline/vestline/cli/Option$Presence"), (.array (.object "com/example/vestline/vestline/cli/Option$Presence"))]
  resolved := Array.replicate 69 none
  statics := some 0 }

def pool7 : Array CpInfo := pool [(2, .class_ 4), (1, u "java/lang/CharSequence"), (42, .class_ 48), (0, u "java/lang/CharSequence$1CodePointIterator"), (10, .class_ 60), (0, u "java/lang/CharSequence$1CharIterator"), (5, .class_ 67), (0, u "java/lang/Object")] 63

/-- java/lang/CharSequence -/
def k7 : Class := { plain "java/lang/CharSequence" (some 0) with
  accessFlags := 1537
  interfaces := #[]
  cf := some (fileOf pool7 2 #[.nestMembers #[47, 59]] #[] 1537 66 #[] #[])
  fields := #[]
  methods := #[]
  instanceTypes := #[]
  staticTypes := #[]
  resolved := Array.replicate 131 none
  statics := none }

def pool8 : Array CpInfo := pool [(1, .class_ 2), (0, u "java/lang/constant/ConstantDesc"), (0, .class_ 4), (0, u "java/lang/Object")] 32

/-- java/lang/constant/ConstantDesc -/
def k8 : Class := { plain "java/lang/constant/ConstantDesc" (some 0) with
  accessFlags := 1537
  interfaces := #[]
  cf := some (fileOf pool8 1 #[] #[] 1537 3 #[] #[])
  fields := #[]
  methods := #[]
  instanceTypes := #[]
  staticTypes := #[]
  resolved := Array.replicate 37 none
  statics := none }

def pool9 : Array CpInfo := pool [(1, .methodref 2 3), (0, .class_ 4), (0, .nameAndType 5 6), (0, u "java/lang/Object"), (0, u "<init>"), (0, u "()V"), (2, .fieldref 10 11), (0, .class_ 12), (0, .nameAndType 13 14), (0, u "java/lang/String"), (0, u "value"), (0, u "[B"), (0, .fieldref 10 16), (0, .nameAndType 17 18), (0, u "coder"), (0, u "B"), (2, u "hash"), (0, u "I"), (2, u "hashIsZero"), (0, u "Z"), (0, .methodref 10 28), (0, .nameAndType 5 29), (0, u "([CIILjava/lang/Void;)V"), (8, .fieldref 10 39), (0, .nameAndType 40 26), (0, u "COMPACT_STRINGS"), (1, .class_ 44), (1, u "java/lang/StringUTF16"), (0, u "compress"), (1, .methodref 42 48), (0, .nameAndType 49 50), (0, u "coderFromArrayLen"), (0, u "([BI)B"), (2, u "toBytes"), (53, .class_ 109), (1, u "java/lang/StringLatin1"), (67, .methodref 42 178), (0, .nameAndType 45 179), (0, u "([CII)[B"), (29, .methodref 10 210), (0, .nameAndType 5 211), (0, u "([BB)V"), (157, u "(C)Z"), (205, .class_ 576), (0, u "java/lang/CharSequence"), (22, u "CASE_INSENSITIVE_ORDER"), (0, u "Ljava/util/Comparator;"), (181, u "valueOf"), (0, u "(C)Ljava/lang/String;"), (226, u "([C)V"), (4, .methodref 107 1016), (0, .nameAndType 1017 369), (0, u "canEncode"), (0, .methodref 107 1019), (0, .nameAndType 53 1020), (0, u "(C)[B"), (80, u "serialPersistentFields"), (0, u "[Ljava/io/ObjectStreamField;"), (0, .class_ 1104), (0, u "java/lang/String$CaseInsensitiveComparator"), (1, .class_ 1107), (0, u "java/io/Serializable"), (0, .class_ 1109), (0, u "java/lang/Comparable"), (0, .class_ 1111), (0, u "java/lang/constant/Constable"), (0, .class_ 1113), (0, u "java/lang/constant/ConstantDesc"), (2, u "serialVersionUID"), (0, u "J"), (3, u "REPL"), (0, u "C"), (2, u "LATIN1"), (1, u "UTF16")] 323

def k9m0 : Method := { name := "<init>", desc := "()V", sig := { parameters := [], returnType := none }, accessFlags := 1, code := none }
def k9c1 : Code := { maxStack := 5, maxLocals := 2, code := jdk_42_method_3_code, exceptionTable := #[], attributes := #[] }
def k9m1 : Method := { name := "<init>", desc := "([C)V", sig := { parameters := [(.array .char)], returnType := none }, accessFlags := 1, code := some k9c1 }
def k9c2 : Code := { maxStack := 4, maxLocals := 1, code := jdk_42_method_139_code, exceptionTable := #[], attributes := #[] }
def k9m2 : Method := { name := "valueOf", desc := "(C)Ljava/lang/String;", sig := { parameters := [.char], returnType := some (.object "java/lang/String") }, accessFlags := 9, code := some k9c2 }
def k9c3 : Code := { maxStack := 4, maxLocals := 6, code := jdk_42_method_149_code, exceptionTable := #[], attributes := #[] }
def k9m3 : Method := { name := "<init>", desc := "([CIILjava/lang/Void;)V", sig := { parameters := [(.array .char), .int, .int, (.object "java/lang/Void")], returnType := none }, accessFlags := 2, code := some k9c3 }
def k9c4 : Code := { maxStack := 2, maxLocals := 3, code := jdk_42_method_151_code, exceptionTable := #[], attributes := #[] }
def k9m4 : Method := { name := "<init>", desc := "([BB)V", sig := { parameters := [(.array .byte), .byte], returnType := none }, accessFlags := 0, code := some k9c4 }
/-- java/lang/String -/
def k9 : Class := { plain "java/lang/String" (some 0) with
  accessFlags := 49
  interfaces := #[4, 3, 7, 2, 8]
  cf := some (fileOf pool9 10 #[.nestMembers #[1103]] #[{ accessFlags := 1, nameIndex := 5, descriptorIndex := 6, attributes := #[] }, { accessFlags := 1, nameIndex := 5, descriptorIndex := 1010, attributes := #[] }, { accessFlags := 9, nameIndex := 782, descriptorIndex := 783, attributes := #[] }, { accessFlags := 2, nameIndex := 5, descriptorIndex := 29, attributes := #[] }, { accessFlags := 0, nameIndex := 5, descriptorIndex := 211, attributes := #[] }] 49 2 #[1106, 1108, 575, 1110, 1112] #[{ accessFlags := 18, nameIndex := 13, descriptorIndex := 14, attributes := #[] }, { accessFlags := 18, nameIndex := 17, descriptorIndex := 18, attributes := #[] }, { accessFlags := 2, nameIndex := 21, descriptorIndex := 22, attributes := #[] }, { accessFlags := 2, nameIndex := 25, descriptorIndex := 26, attributes := #[] }, { accessFlags := 26, nameIndex := 1116, descriptorIndex := 1117, attributes := #[] }, { accessFlags := 24, nameIndex := 40, descriptorIndex := 26, attributes := #[] }, { accessFlags := 26, nameIndex := 1101, descriptorIndex := 1102, attributes := #[] }, { accessFlags := 26, nameIndex := 1121, descriptorIndex := 1122, attributes := #[] }, { accessFlags := 25, nameIndex := 599, descriptorIndex := 600, attributes := #[] }, { accessFlags := 24, nameIndex := 1125, descriptorIndex := 18, attributes := #[] }, { accessFlags := 24, nameIndex := 1127, descriptorIndex := 18, attributes := #[] }])
  fields := #[{ name := "value", type := (.array .byte), accessFlags := 18, slot := 0, constantValue := 0 }, { name := "coder", type := .byte, accessFlags := 18, slot := 1, constantValue := 0 }, { name := "hash", type := .int, accessFlags := 2, slot := 2, constantValue := 0 }, { name := "hashIsZero", type := .boolean, accessFlags := 2, slot := 3, constantValue := 0 }, { name := "serialVersionUID", type := .long, accessFlags := 26, slot := 0, constantValue := 0 }, { name := "COMPACT_STRINGS", type := .boolean, accessFlags := 24, slot := 1, constantValue := 0 }, { name := "serialPersistentFields", type := (.array (.object "java/io/ObjectStreamField")), accessFlags := 26, slot := 2, constantValue := 0 }, { name := "REPL", type := .char, accessFlags := 26, slot := 3, constantValue := 0 }, { name := "CASE_INSENSITIVE_ORDER", type := (.object "java/util/Comparator"), accessFlags := 25, slot := 4, constantValue := 0 }, { name := "LATIN1", type := .byte, accessFlags := 24, slot := 5, constantValue := 0 }, { name := "UTF16", type := .byte, accessFlags := 24, slot := 6, constantValue := 0 }]
  methods := #[k9m0, k9m1, k9m2, k9m3, k9m4]
  instanceTypes := #[(.array .byte), .byte, .int, .boolean]
  staticTypes := #[.long, .boolean, (.array (.object "java/io/ObjectStreamField")), .char, (.object "java/util/Comparator"), .byte, .byte]
  resolved := Array.replicate 1451 none
  statics := some 1 }

def pool10 : Array CpInfo := pool [(6, .class_ 8), (1, u "java/lang/Object"), (0, u "<init>"), (0, u "()V"), (1, .class_ 14), (1, u "java/lang/StringUTF16"), (31, u "$assertionsDisabled"), (0, u "Z"), (13, u "HI_BYTE_SHIFT"), (0, u "I"), (2, u "LO_BYTE_SHIFT"), (49, .methodref 12 116), (0, .nameAndType 117 118), (0, u "compress"), (0, u "([CI[BII)I"), (3, u "([CII)[B"), (138, u "coderFromArrayLen"), (0, u "([BI)B"), (106, .class_ 371), (1, u "java/lang/StringUTF16$LinesSpliterator"), (58, u "MAX_LENGTH"), (196, .class_ 628), (0, u "java/lang/StringUTF16$CodePointsSpliterator"), (0, .class_ 630), (0, u "java/lang/StringUTF16$CharsSpliterator")] 4

def k10m0 : Method := { name := "<init>", desc := "()V", sig := { parameters := [], returnType := none }, accessFlags := 0, code := none }
def k10c1 : Code := { maxStack := 2, maxLocals := 2, code := jdk_52_method_15_code, exceptionTable := #[], attributes := #[] }
def k10m1 : Method := { name := "coderFromArrayLen", desc := "([BI)B", sig := { parameters := [(.array .byte), .int], returnType := some .byte }, accessFlags := 8, code := some k10c1 }
def k10c2 : Code := { maxStack := 5, maxLocals := 6, code := jdk_52_method_16_code, exceptionTable := #[], attributes := #[] }
def k10m2 : Method := { name := "compress", desc := "([CII)[B", sig := { parameters := [(.array .char), .int, .int], returnType := some (.array .byte) }, accessFlags := 9, code := some k10c2 }
def k10c3 : Code := { maxStack := 3, maxLocals := 7, code := jdk_52_method_21_code, exceptionTable := #[], attributes := #[] }
def k10m3 : Method := { name := "compress", desc := "([CI[BII)I", sig := { parameters := [(.array .char), .int, (.array .byte), .int, .int], returnType := some .int }, accessFlags := 9, code := some k10c3 }
/-- java/lang/StringUTF16 -/
def k10 : Class := { plain "java/lang/StringUTF16" (some 0) with
  accessFlags := 48
  interfaces := #[]
  cf := some (fileOf pool10 12 #[.nestMembers #[627, 629, 369]] #[{ accessFlags := 0, nameIndex := 9, descriptorIndex := 10, attributes := #[] }, { accessFlags := 8, nameIndex := 261, descriptorIndex := 262, attributes := #[] }, { accessFlags := 9, nameIndex := 117, descriptorIndex := 122, attributes := #[] }, { accessFlags := 9, nameIndex := 117, descriptorIndex := 118, attributes := #[] }] 48 6 #[] #[{ accessFlags := 26, nameIndex := 61, descriptorIndex := 62, attributes := #[] }, { accessFlags := 26, nameIndex := 65, descriptorIndex := 62, attributes := #[] }, { accessFlags := 24, nameIndex := 430, descriptorIndex := 62, attributes := #[] }, { accessFlags := 4120, nameIndex := 46, descriptorIndex := 47, attributes := #[] }])
  fields := #[{ name := "HI_BYTE_SHIFT", type := .int, accessFlags := 26, slot := 0, constantValue := 0 }, { name := "LO_BYTE_SHIFT", type := .int, accessFlags := 26, slot := 1, constantValue := 0 }, { name := "MAX_LENGTH", type := .int, accessFlags := 24, slot := 2, constantValue := 0 }, { name := "$assertionsDisabled", type := .boolean, accessFlags := 4120, slot := 3, constantValue := 0 }]
  methods := #[k10m0, k10m1, k10m2, k10m3]
  instanceTypes := #[]
  staticTypes := #[.int, .int, .int, .boolean]
  resolved := Array.replicate 635 none
  statics := none }

def pool11 : Array CpInfo := pool [(4, .class_ 6), (1, u "java/lang/Object"), (0, u "<init>"), (0, u "()V"), (5, .class_ 16), (1, u "java/lang/StringLatin1"), (73, u "canEncode"), (14, u "(C)Z"), (15, u "$assertionsDisabled"), (0, u "Z"), (98, .class_ 223), (1, u "java/lang/StringLatin1$LinesSpliterator"), (156, u "toBytes"), (1, u "(C)[B"), (7, .class_ 391), (0, u "java/lang/StringLatin1$CharsSpliterator")] 3

def k11m0 : Method := { name := "<init>", desc := "()V", sig := { parameters := [], returnType := none }, accessFlags := 0, code := none }
def k11c1 : Code := { maxStack := 2, maxLocals := 1, code := jdk_43_method_3_code, exceptionTable := #[], attributes := #[] }
def k11m1 : Method := { name := "canEncode", desc := "(C)Z", sig := { parameters := [.char], returnType := some .boolean }, accessFlags := 9, code := some k11c1 }
def k11c2 : Code := { maxStack := 4, maxLocals := 1, code := jdk_43_method_46_code, exceptionTable := #[], attributes := #[] }
def k11m2 : Method := { name := "toBytes", desc := "(C)[B", sig := { parameters := [.char], returnType := some (.array .byte) }, accessFlags := 9, code := some k11c2 }
/-- java/lang/StringLatin1 -/
def k11 : Class := { plain "java/lang/StringLatin1" (some 0) with
  accessFlags := 48
  interfaces := #[]
  cf := some (fileOf pool11 14 #[.nestMembers #[390, 221]] #[{ accessFlags := 0, nameIndex := 7, descriptorIndex := 8, attributes := #[] }, { accessFlags := 9, nameIndex := 90, descriptorIndex := 105, attributes := #[] }, { accessFlags := 9, nameIndex := 380, descriptorIndex := 382, attributes := #[] }] 48 4 #[] #[{ accessFlags := 4120, nameIndex := 121, descriptorIndex := 122, attributes := #[] }])
  fields := #[{ name := "$assertionsDisabled", type := .boolean, accessFlags := 4120, slot := 0, constantValue := 0 }]
  methods := #[k11m0, k11m1, k11m2]
  instanceTypes := #[]
  staticTypes := #[.boolean]
  resolved := Array.replicate 395 none
  statics := none }

def pool12 : Array CpInfo := pool [(1, .methodref 2 3), (0, .class_ 4), (0, .nameAndType 5 6), (0, u "java/lang/Object"), (0, u "<init>"), (0, u "()V"), (0, .fieldref 8 9), (0, .class_ 10), (0, .nameAndType 11 12), (0, u "com/example/vestline/vestline/cli/Option"), (0, u "name"), (0, u "Ljava/lang/String;"), (0, .fieldref 8 14), (0, .nameAndType 15 12), (0, u "value"), (0, .fieldref 8 17), (0, .nameAndType 18 12), (0, u "named"), (0, .fieldref 8 20), (0, .nameAndType 21 22), (0, u "presence"), (0, u "Lcom/example/vestline/vestline/cli/Option$Presence;"), (0, .fieldref 24 25), (0, .class_ 26), (0, .nameAndType 27 22), (0, u "com/example/vestline/vestline/cli/Option$Presence"), (0, u "REQUIRED"), (0, .methodref 8 29), (0, .nameAndType 5 30), (0, u "(Ljava/lang/String;Ljava/lang/String;Ljava/lang/String;Lcom/example/vestline/vestline/cli/Option$Presence;)V"), (30, u "required"), (0, u "(Ljava/lang/String;Ljava/lang/String;Ljava/lang/String;)Lcom/example/vestline/vestline/cli/Option;"), (4, u "isRequired"), (0, u "()Z")] 23

def k12c0 : Code := { maxStack := 2, maxLocals := 5, code := prog_12_method_1_code, exceptionTable := #[], attributes := #[] }
def k12m0 : Method := { name := "<init>", desc := "(Ljava/lang/String;Ljava/lang/String;Ljava/lang/String;Lcom/example/vestline/vestline/cli/Option$Presence;)V", sig := { parameters := [(.object "java/lang/String"), (.object "java/lang/String"), (.object "java/lang/String"), (.object "com/example/vestline/vestline/cli/Option$Presence")], returnType := none }, accessFlags := 0, code := some k12c0 }
def k12c1 : Code := { maxStack := 6, maxLocals := 3, code := prog_12_method_2_code, exceptionTable := #[], attributes := #[] }
def k12m1 : Method := { name := "required", desc := "(Ljava/lang/String;Ljava/lang/String;Ljava/lang/String;)Lcom/example/vestline/vestline/cli/Option;", sig := { parameters := [(.object "java/lang/String"), (.object "java/lang/String"), (.object "java/lang/String")], returnType := some (.object "com/example/vestline/vestline/cli/Option") }, accessFlags := 8, code := some k12c1 }
def k12c2 : Code := { maxStack := 2, maxLocals := 1, code := prog_12_method_5_code, exceptionTable := #[], attributes := #[] }
def k12m2 : Method := { name := "isRequired", desc := "()Z", sig := { parameters := [], returnType := some .boolean }, accessFlags := 0, code := some k12c2 }
/-- com/example/vestline/vestline/cli/Option -/
def k12 : Class := { plain "com/example/vestline/vestline/cli/Option" (some 0) with
  accessFlags := 48
  interfaces := #[]
  cf := some (fileOf pool12 8 #[.nestMembers #[24]] #[{ accessFlags := 0, nameIndex := 5, descriptorIndex := 30, attributes := #[] }, { accessFlags := 8, nameIndex := 61, descriptorIndex := 62, attributes := #[] }, { accessFlags := 0, nameIndex := 67, descriptorIndex := 68, attributes := #[] }] 48 2 #[] #[{ accessFlags := 18, nameIndex := 11, descriptorIndex := 12, attributes := #[] }, { accessFlags := 18, nameIndex := 15, descriptorIndex := 12, attributes := #[] }, { accessFlags := 18, nameIndex := 18, descriptorIndex := 12, attributes := #[] }, { accessFlags := 18, nameIndex := 21, descriptorIndex := 22, attributes := #[] }])
  fields := #[{ name := "name", type := (.object "java/lang/String"), accessFlags := 18, slot := 0, constantValue := 0 }, { name := "value", type := (.object "java/lang/String"), accessFlags := 18, slot := 1, constantValue := 0 }, { name := "named", type := (.object "java/lang/String"), accessFlags := 18, slot := 2, constantValue := 0 }, { name := "presence", type := (.object "com/example/vestline/vestline/cli/Option$Presence"), accessFlags := 18, slot := 3, constantValue := 0 }]
  methods := #[k12m0, k12m1, k12m2]
  instanceTypes := #[(.object "java/lang/String"), (.object "java/lang/String"), (.object "java/lang/String"), (.object "com/example/vestline/vestline/cli/Option$Presence")]
  staticTypes := #[]
  resolved := Array.replicate 92 none
  statics := none }

def pool13 : Array CpInfo := pool [(2, .class_ 4), (1, u "java/lang/Object"), (0, u "<init>"), (0, u "()V"), (17, .class_ 26), (1, u "jdk/internal/util/Preconditions"), (28, .class_ 56), (0, u "jdk/internal/util/Preconditions$4"), (57, .class_ 115), (0, u "jdk/internal/util/Preconditions$1"), (7, u "SIOOBE_FORMATTER"), (0, u "Ljava/util/function/BiFunction;"), (0, .class_ 126), (0, u "jdk/internal/util/Preconditions$2"), (3, u "AIOOBE_FORMATTER"), (0, .class_ 132), (0, u "jdk/internal/util/Preconditions$3"), (3, u "IOOBE_FORMATTER")] 57

def k13m0 : Method := { name := "<init>", desc := "()V", sig := { parameters := [], returnType := none }, accessFlags := 1, code := none }
/-- jdk/internal/util/Preconditions -/
def k13 : Class := { plain "jdk/internal/util/Preconditions" (some 0) with
  accessFlags := 33
  interfaces := #[]
  cf := some (fileOf pool13 24 #[.nestMembers #[55, 131, 125, 114]] #[{ accessFlags := 1, nameIndex := 5, descriptorIndex := 6, attributes := #[] }] 33 2 #[] #[{ accessFlags := 25, nameIndex := 123, descriptorIndex := 124, attributes := #[] }, { accessFlags := 25, nameIndex := 130, descriptorIndex := 124, attributes := #[] }, { accessFlags := 25, nameIndex := 136, descriptorIndex := 124, attributes := #[] }])
  fields := #[{ name := "SIOOBE_FORMATTER", type := (.object "java/util/function/BiFunction"), accessFlags := 25, slot := 0, constantValue := 0 }, { name := "AIOOBE_FORMATTER", type := (.object "java/util/function/BiFunction"), accessFlags := 25, slot := 1, constantValue := 0 }, { name := "IOOBE_FORMATTER", type := (.object "java/util/function/BiFunction"), accessFlags := 25, slot := 2, constantValue := 0 }]
  methods := #[k13m0]
  instanceTypes := #[]
  staticTypes := #[(.object "java/util/function/BiFunction"), (.object "java/util/function/BiFunction"), (.object "java/util/function/BiFunction")]
  resolved := Array.replicate 194 none
  statics := some 2 }

def pool14 : Array CpInfo := pool [(9, u "<init>"), (6, .class_ 18), (1, u "java/lang/Object"), (0, u "()V"), (1, .class_ 23), (1, u "jdk/internal/util/ArraysSupport"), (0, u "LOG2_ARRAY_LONG_INDEX_SCALE"), (0, u "I"), (2, u "U"), (0, u "Ljdk/internal/misc/Unsafe;"), (8, u "BIG_ENDIAN"), (0, u "Z"), (8, u "LOG2_BYTE_BIT_SIZE"), (4, u "LOG2_ARRAY_INT_INDEX_SCALE"), (54, u "JLA"), (0, u "Ljdk/internal/access/JavaLangAccess;"), (11, u "LOG2_ARRAY_BOOLEAN_INDEX_SCALE"), (9, u "LOG2_ARRAY_BYTE_INDEX_SCALE"), (5, u "LOG2_ARRAY_CHAR_INDEX_SCALE"), (5, u "LOG2_ARRAY_SHORT_INDEX_SCALE"), (18, u "LOG2_ARRAY_FLOAT_INDEX_SCALE"), (24, u "LOG2_ARRAY_DOUBLE_INDEX_SCALE"), (89, u "T_BOOLEAN"), (2, u "T_CHAR"), (1, u "T_FLOAT"), (1, u "T_DOUBLE"), (1, u "T_BYTE"), (1, u "T_SHORT"), (1, u "T_INT"), (1, u "T_LONG"), (1, u "SOFT_MAX_ARRAY_LENGTH")] 83

def k14m0 : Method := { name := "<init>", desc := "()V", sig := { parameters := [], returnType := none }, accessFlags := 2, code := none }
/-- jdk/internal/util/ArraysSupport -/
def k14 : Class := { plain "jdk/internal/util/ArraysSupport" (some 0) with
  accessFlags := 33
  interfaces := #[]
  cf := some (fileOf pool14 21 #[] #[{ accessFlags := 2, nameIndex := 9, descriptorIndex := 19, attributes := #[] }] 33 16 #[] #[{ accessFlags := 24, nameIndex := 28, descriptorIndex := 29, attributes := #[] }, { accessFlags := 26, nameIndex := 38, descriptorIndex := 39, attributes := #[] }, { accessFlags := 25, nameIndex := 121, descriptorIndex := 25, attributes := #[] }, { accessFlags := 25, nameIndex := 131, descriptorIndex := 25, attributes := #[] }, { accessFlags := 25, nameIndex := 137, descriptorIndex := 25, attributes := #[] }, { accessFlags := 25, nameIndex := 143, descriptorIndex := 25, attributes := #[] }, { accessFlags := 25, nameIndex := 53, descriptorIndex := 25, attributes := #[] }, { accessFlags := 25, nameIndex := 24, descriptorIndex := 25, attributes := #[] }, { accessFlags := 25, nameIndex := 162, descriptorIndex := 25, attributes := #[] }, { accessFlags := 25, nameIndex := 187, descriptorIndex := 25, attributes := #[] }, { accessFlags := 26, nameIndex := 48, descriptorIndex := 25, attributes := #[] }, { accessFlags := 25, nameIndex := 277, descriptorIndex := 25, attributes := #[] }, { accessFlags := 25, nameIndex := 280, descriptorIndex := 25, attributes := #[] }, { accessFlags := 25, nameIndex := 282, descriptorIndex := 25, attributes := #[] }, { accessFlags := 25, nameIndex := 284, descriptorIndex := 25, attributes := #[] }, { accessFlags := 25, nameIndex := 286, descriptorIndex := 25, attributes := #[] }, { accessFlags := 25, nameIndex := 288, descriptorIndex := 25, attributes := #[] }, { accessFlags := 25, nameIndex := 290, descriptorIndex := 25, attributes := #[] }, { accessFlags := 25, nameIndex := 292, descriptorIndex := 25, attributes := #[] }, { accessFlags := 26, nameIndex := 108, descriptorIndex := 109, attributes := #[] }, { accessFlags := 25, nameIndex := 294, descriptorIndex := 25, attributes := #[] }])
  fields := #[{ name := "U", type := (.object "jdk/internal/misc/Unsafe"), accessFlags := 24, slot := 0, constantValue := 0 }, { name := "BIG_ENDIAN", type := .boolean, accessFlags := 26, slot := 1, constantValue := 0 }, { name := "LOG2_ARRAY_BOOLEAN_INDEX_SCALE", type := .int, accessFlags := 25, slot := 2, constantValue := 0 }, { name := "LOG2_ARRAY_BYTE_INDEX_SCALE", type := .int, accessFlags := 25, slot := 3, constantValue := 0 }, { name := "LOG2_ARRAY_CHAR_INDEX_SCALE", type := .int, accessFlags := 25, slot := 4, constantValue := 0 }, { name := "LOG2_ARRAY_SHORT_INDEX_SCALE", type := .int, accessFlags := 25, slot := 5, constantValue := 0 }, { name := "LOG2_ARRAY_INT_INDEX_SCALE", type := .int, accessFlags := 25, slot := 6, constantValue := 0 }, { name := "LOG2_ARRAY_LONG_INDEX_SCALE", type := .int, accessFlags := 25, slot := 7, constantValue := 0 }, { name := "LOG2_ARRAY_FLOAT_INDEX_SCALE", type := .int, accessFlags := 25, slot := 8, constantValue := 0 }, { name := "LOG2_ARRAY_DOUBLE_INDEX_SCALE", type := .int, accessFlags := 25, slot := 9, constantValue := 0 }, { name := "LOG2_BYTE_BIT_SIZE", type := .int, accessFlags := 26, slot := 10, constantValue := 0 }, { name := "T_BOOLEAN", type := .int, accessFlags := 25, slot := 11, constantValue := 0 }, { name := "T_CHAR", type := .int, accessFlags := 25, slot := 12, constantValue := 0 }, { name := "T_FLOAT", type := .int, accessFlags := 25, slot := 13, constantValue := 0 }, { name := "T_DOUBLE", type := .int, accessFlags := 25, slot := 14, constantValue := 0 }, { name := "T_BYTE", type := .int, accessFlags := 25, slot := 15, constantValue := 0 }, { name := "T_SHORT", type := .int, accessFlags := 25, slot := 16, constantValue := 0 }, { name := "T_INT", type := .int, accessFlags := 25, slot := 17, constantValue := 0 }, { name := "T_LONG", type := .int, accessFlags := 25, slot := 18, constantValue := 0 }, { name := "JLA", type := (.object "jdk/internal/access/JavaLangAccess"), accessFlags := 26, slot := 19, constantValue := 0 }, { name := "SOFT_MAX_ARRAY_LENGTH", type := .int, accessFlags := 25, slot := 20, constantValue := 0 }]
  methods := #[k14m0]
  instanceTypes := #[]
  staticTypes := #[(.object "jdk/internal/misc/Unsafe"), .boolean, .int, .int, .int, .int, .int, .int, .int, .int, .int, .int, .int, .int, .int, .int, .int, .int, .int, (.object "jdk/internal/access/JavaLangAccess"), .int]
  resolved := Array.replicate 378 none
  statics := none }

def pool15 : Array CpInfo := pool [(1, u "java/lang/Cloneable"), (0, .class_ 1), (0, u "java/lang/Object"), (0, .class_ 3)] 3

/-- java/lang/Cloneable -/
def k15 : Class := { plain "java/lang/Cloneable" (some 0) with
  accessFlags := 1537
  interfaces := #[]
  cf := some (fileOf pool15 2 #[] #[] 1537 4 #[] #[])
  fields := #[]
  methods := #[]
  instanceTypes := #[]
  staticTypes := #[]
  resolved := Array.replicate 8 none
  statics := none }

/-- the primitive byte -/
def k16 : Class := { plain "byte" none with kind := .primitive 'B', accessFlags := 0x411 }
/-- [B -/
def k17 : Class := { plain "[B" (some 0) with kind := .array 16 .byte, interfaces := #[15, 4], accessFlags := 1041 }

/-- the primitive char -/
def k18 : Class := { plain "char" none with kind := .primitive 'C', accessFlags := 0x411 }
/-- [C -/
def k19 : Class := { plain "[C" (some 0) with kind := .array 18 .char, interfaces := #[15, 4], accessFlags := 1041 }

/-- the primitive int -/
def k20 : Class := { plain "int" none with kind := .primitive 'I', accessFlags := 0x411 }
/-- [I -/
def k21 : Class := { plain "[I" (some 0) with kind := .array 20 .int, interfaces := #[15, 4], accessFlags := 1041 }

def heap : Heap := #[{ cls := 6, slots := #[.ref 3, .ref 4, .ref 5, .null], vm := .statics 6 },
  { cls := 9, slots := #[.long 0, .int 1, .null, .int 0, .null, .int 0, .int 0], vm := .statics 9 },
  { cls := 13, slots := #[.null, .null, .null], vm := .statics 13 },
  { cls := 6, slots := #[.null, .int 0, .int 0, .null], vm := .none },
  { cls := 6, slots := #[.null, .int 1, .int 0, .null], vm := .none },
  { cls := 6, slots := #[.null, .int 2, .int 0, .null], vm := .none }]
def classes : Array Class := #[k0, k1, k2, k3, k4, k5, k6, k7, k8, k9, k10, k11, k12, k13, k14, k15, k16, k17, k18, k19, k20, k21]
def interned : List (Array UInt16 × Addr) := []
def slotsUsed : Nat := 26
def theMethod : MethodId := ⟨1, 1⟩
def args0 : Array Value := #[.int 5, .int 5, .int 5, .int 5]
def aboutOver (below : List Frame) : State where
  vm := { classes := classes, interned := interned.toArray }
  heap := heap
  slotsUsed := slotsUsed
  threads := #[{ frames := .invoking theMethod args0 :: below }]
def below0 : List Frame := [.native { method := ⟨0, 0⟩, args := #[] }]
def about1 : State := aboutOver below0
def p0 : Program := .bare "" "" ""
def e0 : Env := launch0.env 0 0 0
theorem w_frames : about1.frames = Frame.invoking theMethod args0 :: below0 := rfl
set_option maxRecDepth 65536 in
theorem w_args : argsFit about1.vm theMethod args0 = true := by decide +kernel
set_option maxRecDepth 65536 in
theorem w_heap : heapFits about1 = true := by decide +kernel
set_option maxRecDepth 65536 in
theorem w_runnable : about1.curStatus? = some .runnable := by decide +kernel
set_option maxRecDepth 65536 in
theorem w_alone : about1.alone = true := by decide +kernel
set_option maxRecDepth 65536 in
theorem w_named : about1.methodNamed? x = some theMethod := by decide +kernel
set_option maxRecDepth 65536 in
theorem w_hears : about1.hears theMethod below0 = true := by decide +kernel
set_option maxRecDepth 65536 in
theorem w_ripe : about1.ripe theMethod args0 below0 = true := by decide +kernel
theorem w_running : about1.status = .running := rfl
set_option maxRecDepth 65536 in
theorem w_room : about1.hasRoom e0.platform room_1 = true :=
  launch0.hasRoom_least _ room_1 (by decide +kernel) (by decide +kernel) (by decide +kernel) (by decide +kernel) (by decide +kernel) (by decide +kernel)
theorem allAtoms_all (ts : List Jvm.Cond) (a : Array Jvm.Value) (st : Jvm.State) : (allAtoms ts).before a st = ts.all (fun c => c.before a st) := by
  induction ts with
  | nil => rfl
  | cons c t ih =>
    show (Jvm.Cond.and c (allAtoms t)).before a st = _
    rw [Jvm.Cond.before_and, ih, List.all_cons]
def words1 : List Jvm.Cond := Jvm.Cond.code x code maxLocals ret :: tables_1
/-- a 'code' word, met by the world's own term for the bytes: nothing is compared byte by byte -/
theorem code_word {y : MethodName} {bytes : ByteArray} {mx : Nat} {rt : Option FieldType} {a : Array Value} {s : State} {m : MethodId} {meth : Method} {c : Code} (h1 : s.methodNamed? y = some m) (h2 : s.vm.method? m = some meth) (h3 : meth.code = some c) (h4 : c.code = bytes)
    (h5 : (c.maxLocals == mx && c.exceptionTable.isEmpty && decide (c.maxStack ≤ mostOperands) && decide (meth.sig.returnType = rt) && !meth.locks && decide (parseMethodDescriptor y.desc = some meth.sig)) = true) : (Jvm.Cond.code y bytes mx rt).before a s = true := by
  simp only [Bool.and_eq_true, beq_iff_eq, Bool.not_eq_true', decide_eq_true_eq] at h5
  obtain ⟨⟨⟨⟨⟨g1, g2⟩, g3⟩, g4⟩, g5⟩, g6⟩ := h5
  simp [Cond.before, Cond.holds, Cond.value, h1, h2, h3, h4, g1, g2, g3, g4, g5, g6]
def isCode : Jvm.Cond → Bool
  | .code _ _ _ _ => true
  | _ => false
theorem all_split {L : List Jvm.Cond} {P : Jvm.Cond → Bool} (h1 : L.all (fun c => isCode c || P c) = true) (h2 : ∀ c ∈ L.filter isCode, P c = true) : L.all P = true := by
  refine List.all_eq_true.mpr fun c hc => ?_
  have h := List.all_eq_true.mp h1 c hc
  rcases Bool.eq_false_or_eq_true (isCode c) with hi | hi
  · exact h2 c (List.mem_filter.mpr ⟨hc, hi⟩)
  · simpa [hi] using h
set_option maxRecDepth 65536 in
theorem w_c0 : (Jvm.Cond.code x code maxLocals ret).before args0 about1 = true := code_word (m := ⟨1, 1⟩) (meth := k1m1) (c := k1c1) (by decide +kernel) rfl rfl rfl (by decide +kernel)
set_option maxRecDepth 65536 in
theorem w_c1 : (Jvm.Cond.code ({ cls := "java/lang/String", name := "<init>", desc := "([C)V" } : Jvm.MethodName) jdk_42_method_3_code (2 : Nat) (Option.none : Option Jvm.ClassFile.FieldType)).before args0 about1 = true := code_word (m := ⟨9, 1⟩) (meth := k9m1) (c := k9c1) (by decide +kernel) rfl rfl rfl (by decide +kernel)
set_option maxRecDepth 65536 in
theorem w_c2 : (Jvm.Cond.code ({ cls := "java/lang/String", name := "<init>", desc := "([CIILjava/lang/Void;)V" } : Jvm.MethodName) jdk_42_method_149_code (6 : Nat) (Option.none : Option Jvm.ClassFile.FieldType)).before args0 about1 = true := code_word (m := ⟨9, 3⟩) (meth := k9m3) (c := k9c3) (by decide +kernel) rfl rfl rfl (by decide +kernel)
set_option maxRecDepth 65536 in
theorem w_c3 : (Jvm.Cond.code ({ cls := "java/lang/Object", name := "<init>", desc := "()V" } : Jvm.MethodName) object_method_1_code (1 : Nat) (Option.none : Option Jvm.ClassFile.FieldType)).before args0 about1 = true := code_word (m := ⟨0, 0⟩) (meth := k0m0) (c := k0c0) (by decide +kernel) rfl rfl rfl (by decide +kernel)
set_option maxRecDepth 65536 in
theorem w_c4 : (Jvm.Cond.code ({ cls := "java/lang/StringUTF16", name := "compress", desc := "([CII)[B" } : Jvm.MethodName) jdk_52_method_16_code (6 : Nat) (Option.some (Jvm.ClassFile.FieldType.array Jvm.ClassFile.FieldType.byte))).before args0 about1 = true := code_word (m := ⟨10, 2⟩) (meth := k10m2) (c := k10c2) (by decide +kernel) rfl rfl rfl (by decide +kernel)
set_option maxRecDepth 65536 in
theorem w_c5 : (Jvm.Cond.code ({ cls := "java/lang/StringUTF16", name := "compress", desc := "([CI[BII)I" } : Jvm.MethodName) jdk_52_method_21_code (7 : Nat) (Option.some Jvm.ClassFile.FieldType.int)).before args0 about1 = true := code_word (m := ⟨10, 3⟩) (meth := k10m3) (c := k10c3) (by decide +kernel) rfl rfl rfl (by decide +kernel)
set_option maxRecDepth 65536 in
theorem w_c6 : (Jvm.Cond.code ({ cls := "java/lang/StringUTF16", name := "coderFromArrayLen", desc := "([BI)B" } : Jvm.MethodName) jdk_52_method_15_code (2 : Nat) (Option.some Jvm.ClassFile.FieldType.byte)).before args0 about1 = true := code_word (m := ⟨10, 1⟩) (meth := k10m1) (c := k10c1) (by decide +kernel) rfl rfl rfl (by decide +kernel)
set_option maxRecDepth 65536 in
theorem w_c7 : (Jvm.Cond.code ({ cls := "java/lang/String", name := "valueOf", desc := "(C)Ljava/lang/String;" } : Jvm.MethodName) jdk_42_method_139_code (1 : Nat) (Option.some (Jvm.ClassFile.FieldType.object "java/lang/String"))).before args0 about1 = true := code_word (m := ⟨9, 2⟩) (meth := k9m2) (c := k9c2) (by decide +kernel) rfl rfl rfl (by decide +kernel)
set_option maxRecDepth 65536 in
theorem w_c8 : (Jvm.Cond.code ({ cls := "java/lang/StringLatin1", name := "canEncode", desc := "(C)Z" } : Jvm.MethodName) jdk_43_method_3_code (1 : Nat) (Option.some Jvm.ClassFile.FieldType.boolean)).before args0 about1 = true := code_word (m := ⟨11, 1⟩) (meth := k11m1) (c := k11c1) (by decide +kernel) rfl rfl rfl (by decide +kernel)
set_option maxRecDepth 65536 in
theorem w_c9 : (Jvm.Cond.code ({ cls := "java/lang/StringLatin1", name := "toBytes", desc := "(C)[B" } : Jvm.MethodName) jdk_43_method_46_code (1 : Nat) (Option.some (Jvm.ClassFile.FieldType.array Jvm.ClassFile.FieldType.byte))).before args0 about1 = true := code_word (m := ⟨11, 2⟩) (meth := k11m2) (c := k11c2) (by decide +kernel) rfl rfl rfl (by decide +kernel)
set_option maxRecDepth 65536 in
theorem w_c10 : (Jvm.Cond.code ({ cls := "java/lang/String", name := "<init>", desc := "([BB)V" } : Jvm.MethodName) jdk_42_method_151_code (3 : Nat) (Option.none : Option Jvm.ClassFile.FieldType)).before args0 about1 = true := code_word (m := ⟨9, 4⟩) (meth := k9m4) (c := k9c4) (by decide +kernel) rfl rfl rfl (by decide +kernel)
set_option maxRecDepth 65536 in
theorem w_c11 : (Jvm.Cond.code ({ cls := "com/example/vestline/vestline/cli/Option", name := "<init>", desc := "(Ljava/lang/String;Ljava/lang/String;Ljava/lang/String;Lcom/example/vestline/vestline/cli/Option$Presence;)V" } : Jvm.MethodName) prog_12_method_1_code (5 : Nat) (Option.none : Option Jvm.ClassFile.FieldType)).before args0 about1 = true := code_word (m := ⟨12, 0⟩) (meth := k12m0) (c := k12c0) (by decide +kernel) rfl rfl rfl (by decide +kernel)
set_option maxRecDepth 65536 in
theorem w_c12 : (Jvm.Cond.code ({ cls := "com/example/vestline/vestline/cli/Option", name := "required", desc := "(Ljava/lang/String;Ljava/lang/String;Ljava/lang/String;)Lcom/example/vestline/vestline/cli/Option;" } : Jvm.MethodName) prog_12_method_2_code (3 : Nat) (Option.some (Jvm.ClassFile.FieldType.object "com/example/vestline/vestline/cli/Option"))).before args0 about1 = true := code_word (m := ⟨12, 1⟩) (meth := k12m1) (c := k12c1) (by decide +kernel) rfl rfl rfl (by decide +kernel)
set_option maxRecDepth 65536 in
theorem w_c13 : (Jvm.Cond.code ({ cls := "com/example/vestline/vestline/cli/Option", name := "isRequired", desc := "()Z" } : Jvm.MethodName) prog_12_method_5_code (1 : Nat) (Option.some Jvm.ClassFile.FieldType.boolean)).before args0 about1 = true := code_word (m := ⟨12, 2⟩) (meth := k12m2) (c := k12c2) (by decide +kernel) rfl rfl rfl (by decide +kernel)
def codes1 : List Jvm.Cond := [Jvm.Cond.code x code maxLocals ret, Jvm.Cond.code ({ cls := "java/lang/String", name := "<init>", desc := "([C)V" } : Jvm.MethodName) jdk_42_method_3_code (2 : Nat) (Option.none : Option Jvm.ClassFile.FieldType), Jvm.Cond.code ({ cls := "java/lang/String", name := "<init>", desc := "([CIILjava/lang/Void;)V" } : Jvm.MethodName) jdk_42_method_149_code (6 : Nat) (Option.none : Option Jvm.ClassFile.FieldType), Jvm.Cond.code ({ cls := "java/lang/Object", name := "<init>", desc := "()V" } : Jvm.MethodName) object_method_1_code (1 : Nat) (Option.none : Option Jvm.ClassFile.FieldType), Jvm.Cond.code ({ cls := "java/lang/StringUTF16", name := "compress", desc := "([CII)[B" } : Jvm.MethodName) jdk_52_method_16_code (6 : Nat) (Option.some (Jvm.ClassFile.FieldType.array Jvm.ClassFile.FieldType.byte)), Jvm.Cond.code ({ cls := "java/lang/StringUTF16", name := "compress", desc := "([CI[BII)I" } : Jvm.MethodName) jdk_52_method_21_code (7 : Nat) (Option.some Jvm.ClassFile.FieldType.int), Jvm.Cond.code ({ cls := "java/lang/StringUTF16", name := "coderFromArrayLen", desc := "([BI)B" } : Jvm.MethodName) jdk_52_method_15_code (2 : Nat) (Option.some Jvm.ClassFile.FieldType.byte), Jvm.Cond.code ({ cls := "java/lang/String", name := "valueOf", desc := "(C)Ljava/lang/String;" } : Jvm.MethodName) jdk_42_method_139_code (1 : Nat) (Option.some (Jvm.ClassFile.FieldType.object "java/lang/String")), Jvm.Cond.code ({ cls := "java/lang/StringLatin1", name := "canEncode", desc := "(C)Z" } : Jvm.MethodName) jdk_43_method_3_code (1 : Nat) (Option.some Jvm.ClassFile.FieldType.boolean), Jvm.Cond.code ({ cls := "java/lang/StringLatin1", name := "toBytes", desc := "(C)[B" } : Jvm.MethodName) jdk_43_method_46_code (1 : Nat) (Option.some (Jvm.ClassFile.FieldType.array Jvm.ClassFile.FieldType.byte)), Jvm.Cond.code ({ cls := "java/lang/String", name := "<init>", desc := "([BB)V" } : Jvm.MethodName) jdk_42_method_151_code (3 : Nat) (Option.none : Option Jvm.ClassFile.FieldType), Jvm.Cond.code ({ cls := "com/example/vestline/vestline/cli/Option", name := "<init>", desc := "(Ljava/lang/String;Ljava/lang/String;Ljava/lang/String;Lcom/example/vestline/vestline/cli/Option$Presence;)V" } : Jvm.MethodName) prog_12_method_1_code (5 : Nat) (Option.none : Option Jvm.ClassFile.FieldType), Jvm.Cond.code ({ cls := "com/example/vestline/vestline/cli/Option", name := "required", desc := "(Ljava/lang/String;Ljava/lang/String;Ljava/lang/String;)Lcom/example/vestline/vestline/cli/Option;" } : Jvm.MethodName) prog_12_method_2_code (3 : Nat) (Option.some (Jvm.ClassFile.FieldType.object "com/example/vestline/vestline/cli/Option")), Jvm.Cond.code ({ cls := "com/example/vestline/vestline/cli/Option", name := "isRequired", desc := "()Z" } : Jvm.MethodName) prog_12_method_5_code (1 : Nat) (Option.some Jvm.ClassFile.FieldType.boolean)]
set_option maxRecDepth 65536 in
theorem codes_eq : words1.filter isCode = codes1 := rfl
theorem w_codes : ∀ c ∈ words1.filter isCode, c.before args0 about1 = true := by
  rw [codes_eq]
  intro c hc
  simp only [codes1, List.mem_cons, List.not_mem_nil, or_false] at hc
  rcases hc with rfl | rfl | rfl | rfl | rfl | rfl | rfl | rfl | rfl | rfl | rfl | rfl | rfl | rfl
  · exact w_c0
  · exact w_c1
  · exact w_c2
  · exact w_c3
  · exact w_c4
  · exact w_c5
  · exact w_c6
  · exact w_c7
  · exact w_c8
  · exact w_c9
  · exact w_c10
  · exact w_c11
  · exact w_c12
  · exact w_c13
set_option maxRecDepth 65536 in
theorem w_t1 : (words1.take 24).all (fun c => isCode c || c.before args0 about1) = true := by decide +kernel
set_option maxRecDepth 65536 in
theorem w_t2 : ((words1.drop 24).take 24).all (fun c => isCode c || c.before args0 about1) = true := by decide +kernel
set_option maxRecDepth 65536 in
theorem w_t3 : (((words1.drop 24).drop 24).take 24).all (fun c => isCode c || c.before args0 about1) = true := by decide +kernel
set_option maxRecDepth 65536 in
theorem w_t4 : (((words1.drop 24).drop 24).drop 24).all (fun c => isCode c || c.before args0 about1) = true := by decide +kernel
theorem w_tables : (allAtoms (Jvm.Cond.code x code maxLocals ret :: tables_1)).before args0 about1 = true := by
  rw [allAtoms_all]
  show words1.all (fun c => c.before args0 about1) = true
  refine all_split ?_ w_codes
  rw [← List.take_append_drop 24 words1, List.all_append, w_t1, ← List.take_append_drop 24 (words1.drop 24), List.all_append, w_t2, ← List.take_append_drop 24 ((words1.drop 24).drop 24), List.all_append, w_t3, w_t4]
  rfl
set_option maxRecDepth 65536 in
theorem w_rest : rest_1_c.before args0 about1 = true := by decide +kernel
set_option maxRecDepth 65536 in
theorem w_case : (Jvm.Cond.and given_1 narrow_1).before args0 about1 = true := by decide +kernel
theorem w_applies : (headSpec (Jvm.Cond.code x code maxLocals ret :: tables_1) room_1).applies x e0.platform about1 = true :=
  (Spec.applies_iff w_frames).mpr ⟨w_running, w_runnable, w_alone, w_named, w_hears, w_ripe, w_room, w_tables⟩
theorem atStart : AtStart classFile x code maxLocals ret World_1 tables_1 room_1 Calls_1 rest_1 Pre_1 launch0 p0 e0 about1 theMethod args0 below0 :=
  ⟨lists_1, trivial, launch0.admits_env _ _ _, launch0.least_env, fairChoices_fair.cas, fairChoices_fair.clock, w_frames, w_args, w_heap, w_applies, trivial, w_rest, w_case⟩
end start1
theorem witness_1 : WitnessClaimed_1 := ⟨start1.p0, start1.e0, start1.about1, start1.theMethod, start1.args0, start1.below0, start1.atStart⟩
end Jvm.Pilot.@@N@@
