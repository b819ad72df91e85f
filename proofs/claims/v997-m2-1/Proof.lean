import JvmDerived
import JvmDerived.Pilot.@@N@@Statement
import JvmDerived.Pilot.@@N@@Code
set_option linter.unusedVariables false
set_option linter.unusedSimpArgs false
namespace Jvm.OwnW
open Sem ClassFile Op Lib Jvm.Stand Jvm.Free Jvm.LawKit Jvm.RoadKit
/-- what a walk knows of its method and of the run -/
def Cx (p : Program) (s : State) (m : MethodId) (meth : Method) (c : Code) (Z : State) (y : MethodName) (bs : ByteArray) (ml : Nat) (ret : Option FieldType) : Prop :=
  p.tables.exec = Jvm.exec ∧ c.code = bs ∧ c.maxLocals = ml ∧ s.vm.findClass y.cls = some m.cls ∧ meth.name = y.name ∧ meth.sig.returnType = ret ∧ meth.locks = false ∧ Z.Warmed39 s.vm
/-- from the state u the body comes to its end, returns v and leaves the heap as Q says; it wrote cells from n0 on alone -/
def Runs (p : Program) (e : Env) (below : List Frame) (s : State) (R : Room) (n0 : Nat) (Q : Option Value → Heap → Prop) (u : State) : Prop :=
  ∃ s₂ o, Steps p.tables e below u s₂ ∧ s₂.status = .running ∧ Ended s₂ below o ∧ ∃ v Ls, o = .returned v ∧ (Q v s₂.heap ∧ Fr n0 Ls) ∧ FrameEnd s o s₂ Ls R.cells R.slots
/-- from pc with these locals and this stack, the heap being h, k cells and n slots made so far: the body ends as Q says -/
def Go (l : Launch) (Z : State) (R : Room) (y : MethodName) (bs : ByteArray) (ml : Nat) (ret : Option FieldType) (n0 : Nat) (Q : Option Value → Heap → Prop) (h : Heap) (k n : Nat) (pc : Nat) (L : Array Slot) (St : List Value) : Prop :=
  ∀ (p : Program) (e : Env) (s : State) (m : MethodId) (args : Array Value) (below : List Frame) (meth : Method) (c : Code) (T : State) (locs : List Loc),
    Cx p s m meth c Z y bs ml ret → Stand p l e R s m args below meth c T locs k n → Fr n0 locs → T.heap = h → Runs p e below s R n0 Q (T.setTop (mkF m pc L St))
/-- it returns r, the heap as it was -/
def Ret (r : Option Value) (h0 : Heap) : Option Value → Heap → Prop := fun v h => v = r ∧ h0 = h
/-- the law says 1 -/
def One1 : Option Value → Heap → Prop := fun v _ => v = some (.int 1)
/-- the body's contract -/
def Con (l : Launch) (Z : State) (R : Room) (y : MethodName) (bs : ByteArray) (ml : Nat) (ret : Option FieldType) (n0 : Nat) (as' : Array Value) (h : Heap) (Q : Option Value → Heap → Prop) : Prop :=
  ∀ ws, MetFree l y (head1 (Jvm.Cond.code y bs ml ret :: ws) R) (fun a U => a = as' ∧ Z.Warmed39 U.vm ∧ U.heap = h) (fun _ _ _ _ _ => True) (fun _ U o U' => ∃ v Ls, o = .returned v ∧ (Q v U'.heap ∧ Fr n0 Ls) ∧ FrameEnd U o U' Ls R.cells R.slots)
theorem Runs.thru {p : Program} {e : Env} {below : List Frame} {s : State} {R : Room} {n0 : Nat} {Q : Option Value → Heap → Prop} {u u' : State} (q : Runs p e below s R n0 Q u') (st : ∀ t, Steps p.tables e below u' t → Steps p.tables e below u t) : Runs p e below s R n0 Q u := by
  obtain ⟨s₂, o, h1, r⟩ := q
  exact ⟨s₂, o, st _ h1, r⟩
/-- what stood in h0 stands in h -/
theorem ext_refl (h : Heap) : Ext h h := ⟨Nat.le_refl _, fun _ _ q => q⟩
theorem ext_trans {h0 h h' : Heap} (X : Ext h0 h) (E : Ext h h') : Ext h0 h' := ⟨Nat.le_trans X.1 E.1, fun a c q => E.2 a c (X.2 a c q)⟩
theorem ext_keep {h0 h h' : Heap} {ws : List Addr} (X : Ext h0 h) (K : Keep h h' ws) (q : ∀ x ∈ ws, h0.size ≤ x) : Ext h0 h' :=
  ⟨Nat.le_trans X.1 K.1, fun a c r => K.2.1 a c (X.2 a c r) fun z => absurd (Array.getElem?_eq_some_iff.mp r).1 (Nat.not_lt.mpr (q a z))⟩
theorem ext_wr {h0 h h' : Heap} {a : Addr} {sl : Nat} {v : Value} (X : Ext h0 h) (W : Wr h h' a sl v) (q : h0.size ≤ a) : Ext h0 h' := ext_keep X (Keep.of_wr W) (allS q all0)
theorem exa_ns {Z : State} {h : Heap} {a : Addr} {C : String} (E : Exa Z h a C) : ∀ c : Cell, h[a]? = some c → c.vm.isStatics = false := fun c q => by
  obtain ⟨cell, k, h1, -, -, h4, -⟩ := E
  cases h1.symm.trans q
  exact h4
theorem sta_keep {Z : State} {h h' : Heap} {C n d : String} {w : Value} {ws : List Addr} (F : Sta Z h C n d w) (K : Keep h h' ws) (q : ∀ x ∈ ws, ∀ c : Cell, h[x]? = some c → c.vm.isStatics = false) : Sta Z h' C n d w := by
  obtain ⟨cf, i, k, f, st, cell, h1, h2, h3, h4, h5, h6, h7⟩ := F
  exact ⟨cf, i, k, f, st, cell, h1, h2, h3, h4, K.2.1 st cell h5 (fun m => by have r := q st m cell h5; rw [h6] at r; cases r), h6, h7⟩
theorem eqI {args : Array Value} {first s : State} {o : Option Outcome} {idx : List Nat} {a b : Term} {k : Int32} (h : (Cond.eq a b).value args first o s idx = some true) (hb : b.eval args first o idx s = some (.int k)) : a.eval args first o idx s = some (.int k) := by
  obtain ⟨x, z, e1, e2, k1, k2⟩ := cmp_v (Or.inl h)
  cases hb.symm.trans e2
  obtain ⟨w, rfl⟩ := k2
  have h' := h
  simp only [Cond.value, e1, hb, Option.some.injEq, decide_eq_true_eq] at h'
  rw [e1, h']
theorem eqJ {args : Array Value} {first s : State} {o : Option Outcome} {idx : List Nat} {a b : Term} {k : Int64} (h : (Cond.eq a b).value args first o s idx = some true) (hb : b.eval args first o idx s = some (.long k)) : a.eval args first o idx s = some (.long k) := by
  obtain ⟨x, z, e1, e2, k1, k2⟩ := cmp_v (Or.inl h)
  cases hb.symm.trans e2
  obtain ⟨w, rfl⟩ := k2
  have h' := h
  simp only [Cond.value, e1, hb, Option.some.injEq, decide_eq_true_eq] at h'
  rw [e1, h']
theorem arrClass {Z : State} {a0 : Array Value} {C : String} (w : (Cond.arrayOver (.object C)).before a0 Z = true) : (Cond.arrayClass (.object C)).before a0 Z = true := by
  obtain ⟨comp, c, k, -, -, h3, h4, h5⟩ := Cond.arrayOver_spec w
  simp [Cond.before, Cond.holds, Cond.value, h5, h3, h4]
theorem ovrOf {Z : State} {a0 : Array Value} {C : String} {cI : ClassId} (w : (Cond.arrayOver (.object C)).before a0 Z = true) (h : Z.vm.findClass (FieldType.array (.object C)).toString = some cI) : Ovr Z cI C := by
  obtain ⟨comp, c, k, h1, -, h3, h4, h5⟩ := Cond.arrayOver_spec w
  have e : (FieldType.array (.object C)).toString = "[" ++ (FieldType.object C).toString := rfl
  rw [e, h5] at h
  cases h
  exact ⟨k, comp, h3, h4, h1⟩
section Laws
variable {l : Launch} {Z : State} {R : Room} {y : MethodName} {bs : ByteArray} {ml : Nat} {ret : Option FieldType} {n0 : Nat} {Q : Option Value → Heap → Prop} {h : Heap} {k n : Nat} {k' n' : Nat} {pc pc' : Nat} {L L' : Array Slot} {St : List Value} {a0 : Array Value}
theorem Con.of {as' : Array Value} (pn : plainFor y = true) (ef : ∀ m, entryFrame m as' ml = mkF m 0 L []) (b : Go l Z R y bs ml ret n0 Q h 0 0 0 L []) : Con l Z R y bs ml ret n0 as' h Q := by
  intro ws
  refine MetFree.of_bodySF pn hisR ?_
  intro p e s m args below meth c s₁ Bd hml0 hP hK
  obtain ⟨rfl, hZ, hh⟩ := hP
  have X0 : Stand p l e R s m args below meth c s₁ [] 0 0 := Stand.of_body Bd
  have e0 : s₁.heap = h := by rw [← hh, Bd.state]; rfl
  have q := b p e s m args below meth c s₁ [] ⟨Bd.exec, Bd.bytes, hml0, findClass_of_methodNamed Bd.named, (name_of_methodNamed Bd.named Bd.method).1, Bd.returns, Bd.notSynchronized, hZ⟩ X0 (Fr.nil n0) e0
  rw [← ef m] at q
  exact q
theorem Con.mono {as' : Array Value} {Q' : Option Value → Heap → Prop} (q : Con l Z R y bs ml ret n0 as' h Q) (i : ∀ v h', Q v h' → Q' v h') : Con l Z R y bs ml ret n0 as' h Q' := by
  intro ws p e ha hc hk s m args below hf happ hP hK
  obtain ⟨s₂, o, h1, h2, h3, v, Ls, h4, ⟨h5, h6⟩, h7⟩ := q ws p e ha hc hk s m args below hf happ hP hK
  exact ⟨s₂, o, h1, h2, h3, v, Ls, h4, ⟨i _ _ h5, h6⟩, h7⟩
/-- the same, the heap's name turned -/
theorem Go.cast {h' : Heap} (e : h' = h) (q : Go l Z R y bs ml ret n0 Q h' k n pc L St) : Go l Z R y bs ml ret n0 Q h k n pc L St := e ▸ q
theorem Go.more {k' n' : Nat} (hk : k ≤ k') (hn : n ≤ n') (q : Go l Z R y bs ml ret n0 Q h k' n' pc L St) : Go l Z R y bs ml ret n0 Q h k n pc L St := fun p e s m args below meth c T locs C X N eT => q p e s m args below meth c T locs C (X.mono hk hn) N eT
theorem Go.frm {St' : List Value} (q : Go l Z R y bs ml ret n0 Q h k n pc L' St') (e1 : L = L') (e2 : St = St') : Go l Z R y bs ml ret n0 Q h k n pc L St := by subst e1 e2; exact q

theorem iload {i : Nat} {v : Int32} (hd : decode bs pc = .ok (.iload i, 2)) (hl : L[i]? = some (.val (.int v))) (hp : pc + 2 = pc') (kt : Go l Z R y bs ml ret n0 Q h k n pc' L (.int v :: St)) : Go l Z R y bs ml ret n0 Q h k n pc L St := by
  subst hp
  intro p e s m args below meth c T locs C X N eT
  exact (kt p e s m args below meth c T locs C X N eT).thru fun t q => XS.iload X.here C.1 rfl (hb C.2.1 hd) hl q
theorem iloadN {i : Fin 4} {v : Int32} (hd : decode bs pc = .ok (.iload_n i, 1)) (hl : L[i.val]? = some (.val (.int v))) (hp : pc + 1 = pc') (kt : Go l Z R y bs ml ret n0 Q h k n pc' L (.int v :: St)) : Go l Z R y bs ml ret n0 Q h k n pc L St := by
  subst hp
  intro p e s m args below meth c T locs C X N eT
  exact (kt p e s m args below meth c T locs C X N eT).thru fun t q => XS.iloadN X.here C.1 rfl (hb C.2.1 hd) hl q
theorem istore {i : Nat} {v : Int32} (hd : decode bs pc = .ok (.istore i, 2)) (hl : storeLocals L i (.int v) = some L') (hp : pc + 2 = pc') (kt : Go l Z R y bs ml ret n0 Q h k n pc' L' St) : Go l Z R y bs ml ret n0 Q h k n pc L (.int v :: St) := by
  subst hp
  intro p e s m args below meth c T locs C X N eT
  exact (kt p e s m args below meth c T locs C X N eT).thru fun t q => XS.istore X.here C.1 rfl (hb C.2.1 hd) rfl hl q
theorem istoreN {i : Fin 4} {v : Int32} (hd : decode bs pc = .ok (.istore_n i, 1)) (hl : storeLocals L i.val (.int v) = some L') (hp : pc + 1 = pc') (kt : Go l Z R y bs ml ret n0 Q h k n pc' L' St) : Go l Z R y bs ml ret n0 Q h k n pc L (.int v :: St) := by
  subst hp
  intro p e s m args below meth c T locs C X N eT
  exact (kt p e s m args below meth c T locs C X N eT).thru fun t q => XS.istoreN X.here C.1 rfl (hb C.2.1 hd) rfl hl q
theorem lload {i : Nat} {v : Int64} (hd : decode bs pc = .ok (.lload i, 2)) (hl : L[i]? = some (.val (.long v))) (hp : pc + 2 = pc') (kt : Go l Z R y bs ml ret n0 Q h k n pc' L (.long v :: St)) : Go l Z R y bs ml ret n0 Q h k n pc L St := by
  subst hp
  intro p e s m args below meth c T locs C X N eT
  exact (kt p e s m args below meth c T locs C X N eT).thru fun t q => XS.lload X.here C.1 rfl (hb C.2.1 hd) hl q
theorem lloadN {i : Fin 4} {v : Int64} (hd : decode bs pc = .ok (.lload_n i, 1)) (hl : L[i.val]? = some (.val (.long v))) (hp : pc + 1 = pc') (kt : Go l Z R y bs ml ret n0 Q h k n pc' L (.long v :: St)) : Go l Z R y bs ml ret n0 Q h k n pc L St := by
  subst hp
  intro p e s m args below meth c T locs C X N eT
  exact (kt p e s m args below meth c T locs C X N eT).thru fun t q => XS.lloadN X.here C.1 rfl (hb C.2.1 hd) hl q
theorem lstore {i : Nat} {v : Int64} (hd : decode bs pc = .ok (.lstore i, 2)) (hl : storeLocals L i (.long v) = some L') (hp : pc + 2 = pc') (kt : Go l Z R y bs ml ret n0 Q h k n pc' L' St) : Go l Z R y bs ml ret n0 Q h k n pc L (.long v :: St) := by
  subst hp
  intro p e s m args below meth c T locs C X N eT
  exact (kt p e s m args below meth c T locs C X N eT).thru fun t q => XS.lstore X.here C.1 rfl (hb C.2.1 hd) rfl hl q
theorem lstoreN {i : Fin 4} {v : Int64} (hd : decode bs pc = .ok (.lstore_n i, 1)) (hl : storeLocals L i.val (.long v) = some L') (hp : pc + 1 = pc') (kt : Go l Z R y bs ml ret n0 Q h k n pc' L' St) : Go l Z R y bs ml ret n0 Q h k n pc L (.long v :: St) := by
  subst hp
  intro p e s m args below meth c T locs C X N eT
  exact (kt p e s m args below meth c T locs C X N eT).thru fun t q => XS.lstoreN X.here C.1 rfl (hb C.2.1 hd) rfl hl q
theorem aload {i : Nat} {v : Value} (hd : decode bs pc = .ok (.aload i, 2)) (hl : L[i]? = some (.val v)) (hv : v.isRef = true) (hp : pc + 2 = pc') (kt : Go l Z R y bs ml ret n0 Q h k n pc' L (v :: St)) : Go l Z R y bs ml ret n0 Q h k n pc L St := by
  subst hp
  intro p e s m args below meth c T locs C X N eT
  exact (kt p e s m args below meth c T locs C X N eT).thru fun t q => XS.aload X.here C.1 rfl (hb C.2.1 hd) hl hv q
theorem aloadN {i : Fin 4} {v : Value} (hd : decode bs pc = .ok (.aload_n i, 1)) (hl : L[i.val]? = some (.val v)) (hv : v.isRef = true) (hp : pc + 1 = pc') (kt : Go l Z R y bs ml ret n0 Q h k n pc' L (v :: St)) : Go l Z R y bs ml ret n0 Q h k n pc L St := by
  subst hp
  intro p e s m args below meth c T locs C X N eT
  exact (kt p e s m args below meth c T locs C X N eT).thru fun t q => XS.aloadN X.here C.1 rfl (hb C.2.1 hd) hl hv q
theorem astore {i : Nat} {v : Value} (hd : decode bs pc = .ok (.astore i, 2)) (hv : v.isRef = true) (hl : storeLocals L i v = some L') (hp : pc + 2 = pc') (kt : Go l Z R y bs ml ret n0 Q h k n pc' L' St) : Go l Z R y bs ml ret n0 Q h k n pc L (v :: St) := by
  subst hp
  intro p e s m args below meth c T locs C X N eT
  exact (kt p e s m args below meth c T locs C X N eT).thru fun t q => XS.astore X.here C.1 rfl (hb C.2.1 hd) rfl hv hl q
theorem astoreN {i : Fin 4} {v : Value} (hd : decode bs pc = .ok (.astore_n i, 1)) (hv : v.isRef = true) (hl : storeLocals L i.val v = some L') (hp : pc + 1 = pc') (kt : Go l Z R y bs ml ret n0 Q h k n pc' L' St) : Go l Z R y bs ml ret n0 Q h k n pc L (v :: St) := by
  subst hp
  intro p e s m args below meth c T locs C X N eT
  exact (kt p e s m args below meth c T locs C X N eT).thru fun t q => XS.astoreN X.here C.1 rfl (hb C.2.1 hd) rfl hv hl q
theorem iconst {i : Int} {v : Int32} (hd : decode bs pc = .ok (.iconst i, 1)) (hv : Int32.ofInt i = v) (hp : pc + 1 = pc') (kt : Go l Z R y bs ml ret n0 Q h k n pc' L (.int v :: St)) : Go l Z R y bs ml ret n0 Q h k n pc L St := by
  subst hp hv
  intro p e s m args below meth c T locs C X N eT
  exact (kt p e s m args below meth c T locs C X N eT).thru fun t q => XS.iconst X.here C.1 rfl (hb C.2.1 hd) q
theorem bipush {i : Int} {v : Int32} (hd : decode bs pc = .ok (.bipush i, 2)) (hv : (Int8.ofInt i).toInt32 = v) (hp : pc + 2 = pc') (kt : Go l Z R y bs ml ret n0 Q h k n pc' L (.int v :: St)) : Go l Z R y bs ml ret n0 Q h k n pc L St := by
  subst hp hv
  intro p e s m args below meth c T locs C X N eT
  exact (kt p e s m args below meth c T locs C X N eT).thru fun t q => XS.bipush X.here C.1 rfl (hb C.2.1 hd) q
theorem sipush {i : Int} {v : Int32} (hd : decode bs pc = .ok (.sipush i, 3)) (hv : (Int16.ofInt i).toInt32 = v) (hp : pc + 3 = pc') (kt : Go l Z R y bs ml ret n0 Q h k n pc' L (.int v :: St)) : Go l Z R y bs ml ret n0 Q h k n pc L St := by
  subst hp hv
  intro p e s m args below meth c T locs C X N eT
  exact (kt p e s m args below meth c T locs C X N eT).thru fun t q => XS.sipush X.here C.1 rfl (hb C.2.1 hd) q
theorem aconstNull  (hd : decode bs pc = .ok (.aconst_null, 1)) (hp : pc + 1 = pc') (kt : Go l Z R y bs ml ret n0 Q h k n pc' L (.null :: St)) : Go l Z R y bs ml ret n0 Q h k n pc L St := by
  subst hp
  intro p e s m args below meth c T locs C X N eT
  exact (kt p e s m args below meth c T locs C X N eT).thru fun t q => XS.aconstNull X.here C.1 rfl (hb C.2.1 hd) q
theorem iadd {x z : Int32} (hd : decode bs pc = .ok (.iadd, 1)) (hp : pc + 1 = pc') (kt : Go l Z R y bs ml ret n0 Q h k n pc' L (.int (x + z) :: St)) : Go l Z R y bs ml ret n0 Q h k n pc L (.int z :: .int x :: St) := by
  subst hp
  intro p e s m args below meth c T locs C X N eT
  exact (kt p e s m args below meth c T locs C X N eT).thru fun t q => XS.iadd X.here C.1 rfl (hb C.2.1 hd) rfl q
theorem isub {x z : Int32} (hd : decode bs pc = .ok (.isub, 1)) (hp : pc + 1 = pc') (kt : Go l Z R y bs ml ret n0 Q h k n pc' L (.int (x - z) :: St)) : Go l Z R y bs ml ret n0 Q h k n pc L (.int z :: .int x :: St) := by
  subst hp
  intro p e s m args below meth c T locs C X N eT
  exact (kt p e s m args below meth c T locs C X N eT).thru fun t q => XS.isub X.here C.1 rfl (hb C.2.1 hd) rfl q
theorem imul {x z : Int32} (hd : decode bs pc = .ok (.imul, 1)) (hp : pc + 1 = pc') (kt : Go l Z R y bs ml ret n0 Q h k n pc' L (.int (x * z) :: St)) : Go l Z R y bs ml ret n0 Q h k n pc L (.int z :: .int x :: St) := by
  subst hp
  intro p e s m args below meth c T locs C X N eT
  exact (kt p e s m args below meth c T locs C X N eT).thru fun t q => XS.imul X.here C.1 rfl (hb C.2.1 hd) rfl q
theorem iand {x z : Int32} (hd : decode bs pc = .ok (.iand, 1)) (hp : pc + 1 = pc') (kt : Go l Z R y bs ml ret n0 Q h k n pc' L (.int (x &&& z) :: St)) : Go l Z R y bs ml ret n0 Q h k n pc L (.int z :: .int x :: St) := by
  subst hp
  intro p e s m args below meth c T locs C X N eT
  exact (kt p e s m args below meth c T locs C X N eT).thru fun t q => XS.iand X.here C.1 rfl (hb C.2.1 hd) rfl q
theorem ior {x z : Int32} (hd : decode bs pc = .ok (.ior, 1)) (hp : pc + 1 = pc') (kt : Go l Z R y bs ml ret n0 Q h k n pc' L (.int (x ||| z) :: St)) : Go l Z R y bs ml ret n0 Q h k n pc L (.int z :: .int x :: St) := by
  subst hp
  intro p e s m args below meth c T locs C X N eT
  exact (kt p e s m args below meth c T locs C X N eT).thru fun t q => XS.ior X.here C.1 rfl (hb C.2.1 hd) rfl q
theorem ixor {x z : Int32} (hd : decode bs pc = .ok (.ixor, 1)) (hp : pc + 1 = pc') (kt : Go l Z R y bs ml ret n0 Q h k n pc' L (.int (x ^^^ z) :: St)) : Go l Z R y bs ml ret n0 Q h k n pc L (.int z :: .int x :: St) := by
  subst hp
  intro p e s m args below meth c T locs C X N eT
  exact (kt p e s m args below meth c T locs C X N eT).thru fun t q => XS.ixor X.here C.1 rfl (hb C.2.1 hd) rfl q
theorem ishl {x z : Int32} (hd : decode bs pc = .ok (.ishl, 1)) (hp : pc + 1 = pc') (kt : Go l Z R y bs ml ret n0 Q h k n pc' L (.int (x <<< (z &&& 31)) :: St)) : Go l Z R y bs ml ret n0 Q h k n pc L (.int z :: .int x :: St) := by
  subst hp
  intro p e s m args below meth c T locs C X N eT
  exact (kt p e s m args below meth c T locs C X N eT).thru fun t q => XS.ishl X.here C.1 rfl (hb C.2.1 hd) rfl q
theorem ishr {x z : Int32} (hd : decode bs pc = .ok (.ishr, 1)) (hp : pc + 1 = pc') (kt : Go l Z R y bs ml ret n0 Q h k n pc' L (.int (x >>> (z &&& 31)) :: St)) : Go l Z R y bs ml ret n0 Q h k n pc L (.int z :: .int x :: St) := by
  subst hp
  intro p e s m args below meth c T locs C X N eT
  exact (kt p e s m args below meth c T locs C X N eT).thru fun t q => XS.ishr X.here C.1 rfl (hb C.2.1 hd) rfl q
theorem iushr {x z : Int32} (hd : decode bs pc = .ok (.iushr, 1)) (hp : pc + 1 = pc') (kt : Go l Z R y bs ml ret n0 Q h k n pc' L (.int ((x.toUInt32 >>> (z &&& 31).toUInt32).toInt32) :: St)) : Go l Z R y bs ml ret n0 Q h k n pc L (.int z :: .int x :: St) := by
  subst hp
  intro p e s m args below meth c T locs C X N eT
  exact (kt p e s m args below meth c T locs C X N eT).thru fun t q => XS.iushr X.here C.1 rfl (hb C.2.1 hd) rfl q
theorem ladd {x z : Int64} (hd : decode bs pc = .ok (.ladd, 1)) (hp : pc + 1 = pc') (kt : Go l Z R y bs ml ret n0 Q h k n pc' L (.long (x + z) :: St)) : Go l Z R y bs ml ret n0 Q h k n pc L (.long z :: .long x :: St) := by
  subst hp
  intro p e s m args below meth c T locs C X N eT
  exact (kt p e s m args below meth c T locs C X N eT).thru fun t q => XS.ladd X.here C.1 rfl (hb C.2.1 hd) rfl q
theorem lsub {x z : Int64} (hd : decode bs pc = .ok (.lsub, 1)) (hp : pc + 1 = pc') (kt : Go l Z R y bs ml ret n0 Q h k n pc' L (.long (x - z) :: St)) : Go l Z R y bs ml ret n0 Q h k n pc L (.long z :: .long x :: St) := by
  subst hp
  intro p e s m args below meth c T locs C X N eT
  exact (kt p e s m args below meth c T locs C X N eT).thru fun t q => XS.lsub X.here C.1 rfl (hb C.2.1 hd) rfl q
theorem lmul {x z : Int64} (hd : decode bs pc = .ok (.lmul, 1)) (hp : pc + 1 = pc') (kt : Go l Z R y bs ml ret n0 Q h k n pc' L (.long (x * z) :: St)) : Go l Z R y bs ml ret n0 Q h k n pc L (.long z :: .long x :: St) := by
  subst hp
  intro p e s m args below meth c T locs C X N eT
  exact (kt p e s m args below meth c T locs C X N eT).thru fun t q => XS.lmul X.here C.1 rfl (hb C.2.1 hd) rfl q
theorem land {x z : Int64} (hd : decode bs pc = .ok (.land, 1)) (hp : pc + 1 = pc') (kt : Go l Z R y bs ml ret n0 Q h k n pc' L (.long (x &&& z) :: St)) : Go l Z R y bs ml ret n0 Q h k n pc L (.long z :: .long x :: St) := by
  subst hp
  intro p e s m args below meth c T locs C X N eT
  exact (kt p e s m args below meth c T locs C X N eT).thru fun t q => XS.land X.here C.1 rfl (hb C.2.1 hd) rfl q
theorem lor {x z : Int64} (hd : decode bs pc = .ok (.lor, 1)) (hp : pc + 1 = pc') (kt : Go l Z R y bs ml ret n0 Q h k n pc' L (.long (x ||| z) :: St)) : Go l Z R y bs ml ret n0 Q h k n pc L (.long z :: .long x :: St) := by
  subst hp
  intro p e s m args below meth c T locs C X N eT
  exact (kt p e s m args below meth c T locs C X N eT).thru fun t q => XS.lor X.here C.1 rfl (hb C.2.1 hd) rfl q
theorem lxor {x z : Int64} (hd : decode bs pc = .ok (.lxor, 1)) (hp : pc + 1 = pc') (kt : Go l Z R y bs ml ret n0 Q h k n pc' L (.long (x ^^^ z) :: St)) : Go l Z R y bs ml ret n0 Q h k n pc L (.long z :: .long x :: St) := by
  subst hp
  intro p e s m args below meth c T locs C X N eT
  exact (kt p e s m args below meth c T locs C X N eT).thru fun t q => XS.lxor X.here C.1 rfl (hb C.2.1 hd) rfl q
theorem lshl {x : Int64} {z : Int32} (hd : decode bs pc = .ok (.lshl, 1)) (hp : pc + 1 = pc') (kt : Go l Z R y bs ml ret n0 Q h k n pc' L (.long (x <<< (z &&& 0x3f).toInt64) :: St)) : Go l Z R y bs ml ret n0 Q h k n pc L (.int z :: .long x :: St) := by
  subst hp
  intro p e s m args below meth c T locs C X N eT
  exact (kt p e s m args below meth c T locs C X N eT).thru fun t q => XS.lshl X.here C.1 rfl (hb C.2.1 hd) rfl q
theorem lshr {x : Int64} {z : Int32} (hd : decode bs pc = .ok (.lshr, 1)) (hp : pc + 1 = pc') (kt : Go l Z R y bs ml ret n0 Q h k n pc' L (.long (x >>> (z &&& 0x3f).toInt64) :: St)) : Go l Z R y bs ml ret n0 Q h k n pc L (.int z :: .long x :: St) := by
  subst hp
  intro p e s m args below meth c T locs C X N eT
  exact (kt p e s m args below meth c T locs C X N eT).thru fun t q => XS.lshr X.here C.1 rfl (hb C.2.1 hd) rfl q
theorem lushr {x : Int64} {z : Int32} (hd : decode bs pc = .ok (.lushr, 1)) (hp : pc + 1 = pc') (kt : Go l Z R y bs ml ret n0 Q h k n pc' L (.long ((x.toUInt64 >>> (z &&& 0x3f).toInt64.toUInt64).toInt64) :: St)) : Go l Z R y bs ml ret n0 Q h k n pc L (.int z :: .long x :: St) := by
  subst hp
  intro p e s m args below meth c T locs C X N eT
  exact (kt p e s m args below meth c T locs C X N eT).thru fun t q => XS.lushr X.here C.1 rfl (hb C.2.1 hd) rfl q
theorem ineg {x : Int32} (hd : decode bs pc = .ok (.ineg, 1)) (hp : pc + 1 = pc') (kt : Go l Z R y bs ml ret n0 Q h k n pc' L (.int (-x) :: St)) : Go l Z R y bs ml ret n0 Q h k n pc L (.int x :: St) := by
  subst hp
  intro p e s m args below meth c T locs C X N eT
  exact (kt p e s m args below meth c T locs C X N eT).thru fun t q => XS.ineg X.here C.1 rfl (hb C.2.1 hd) rfl q
theorem lneg {x : Int64} (hd : decode bs pc = .ok (.lneg, 1)) (hp : pc + 1 = pc') (kt : Go l Z R y bs ml ret n0 Q h k n pc' L (.long (-x) :: St)) : Go l Z R y bs ml ret n0 Q h k n pc L (.long x :: St) := by
  subst hp
  intro p e s m args below meth c T locs C X N eT
  exact (kt p e s m args below meth c T locs C X N eT).thru fun t q => XS.lneg X.here C.1 rfl (hb C.2.1 hd) rfl q
theorem i2l {x : Int32} (hd : decode bs pc = .ok (.i2l, 1)) (hp : pc + 1 = pc') (kt : Go l Z R y bs ml ret n0 Q h k n pc' L (.long (x.toInt64) :: St)) : Go l Z R y bs ml ret n0 Q h k n pc L (.int x :: St) := by
  subst hp
  intro p e s m args below meth c T locs C X N eT
  exact (kt p e s m args below meth c T locs C X N eT).thru fun t q => XS.i2l X.here C.1 rfl (hb C.2.1 hd) rfl q
theorem l2i {x : Int64} (hd : decode bs pc = .ok (.l2i, 1)) (hp : pc + 1 = pc') (kt : Go l Z R y bs ml ret n0 Q h k n pc' L (.int (x.toInt32) :: St)) : Go l Z R y bs ml ret n0 Q h k n pc L (.long x :: St) := by
  subst hp
  intro p e s m args below meth c T locs C X N eT
  exact (kt p e s m args below meth c T locs C X N eT).thru fun t q => XS.l2i X.here C.1 rfl (hb C.2.1 hd) rfl q
theorem i2b {x : Int32} (hd : decode bs pc = .ok (.i2b, 1)) (hp : pc + 1 = pc') (kt : Go l Z R y bs ml ret n0 Q h k n pc' L (.int (x.toInt8.toInt32) :: St)) : Go l Z R y bs ml ret n0 Q h k n pc L (.int x :: St) := by
  subst hp
  intro p e s m args below meth c T locs C X N eT
  exact (kt p e s m args below meth c T locs C X N eT).thru fun t q => XS.i2b X.here C.1 rfl (hb C.2.1 hd) rfl q
theorem i2s {x : Int32} (hd : decode bs pc = .ok (.i2s, 1)) (hp : pc + 1 = pc') (kt : Go l Z R y bs ml ret n0 Q h k n pc' L (.int (x.toInt16.toInt32) :: St)) : Go l Z R y bs ml ret n0 Q h k n pc L (.int x :: St) := by
  subst hp
  intro p e s m args below meth c T locs C X N eT
  exact (kt p e s m args below meth c T locs C X N eT).thru fun t q => XS.i2s X.here C.1 rfl (hb C.2.1 hd) rfl q
theorem i2c {x : Int32} (hd : decode bs pc = .ok (.i2c, 1)) (hp : pc + 1 = pc') (kt : Go l Z R y bs ml ret n0 Q h k n pc' L (.int (x.toUInt32.toUInt16.toUInt32.toInt32) :: St)) : Go l Z R y bs ml ret n0 Q h k n pc L (.int x :: St) := by
  subst hp
  intro p e s m args below meth c T locs C X N eT
  exact (kt p e s m args below meth c T locs C X N eT).thru fun t q => XS.i2c X.here C.1 rfl (hb C.2.1 hd) rfl q
theorem lcmp {x z : Int64} (hd : decode bs pc = .ok (.lcmp, 1)) (hp : pc + 1 = pc') (kt : Go l Z R y bs ml ret n0 Q h k n pc' L (.int (lcmpW x z) :: St)) : Go l Z R y bs ml ret n0 Q h k n pc L (.long z :: .long x :: St) := by
  subst hp
  intro p e s m args below meth c T locs C X N eT
  exact (kt p e s m args below meth c T locs C X N eT).thru fun t q => XS.lcmp X.here C.1 rfl (hb C.2.1 hd) rfl q
theorem idiv {x z : Int32} (hd : decode bs pc = .ok (.idiv, 1)) (hz : z ≠ 0) (hp : pc + 1 = pc') (kt : Go l Z R y bs ml ret n0 Q h k n pc' L (.int (x / z) :: St)) : Go l Z R y bs ml ret n0 Q h k n pc L (.int z :: .int x :: St) := by
  subst hp
  intro p e s m args below meth c T locs C X N eT
  exact (kt p e s m args below meth c T locs C X N eT).thru fun t q => XS.idiv X.here C.1 rfl (hb C.2.1 hd) rfl hz q
theorem irem {x z : Int32} (hd : decode bs pc = .ok (.irem, 1)) (hz : z ≠ 0) (hp : pc + 1 = pc') (kt : Go l Z R y bs ml ret n0 Q h k n pc' L (.int (x % z) :: St)) : Go l Z R y bs ml ret n0 Q h k n pc L (.int z :: .int x :: St) := by
  subst hp
  intro p e s m args below meth c T locs C X N eT
  exact (kt p e s m args below meth c T locs C X N eT).thru fun t q => iremM X C.1 rfl (hb C.2.1 hd) rfl hz q
theorem lrem {x z : Int64} (hd : decode bs pc = .ok (.lrem, 1)) (hz : z ≠ 0) (hp : pc + 1 = pc') (kt : Go l Z R y bs ml ret n0 Q h k n pc' L (.long (x % z) :: St)) : Go l Z R y bs ml ret n0 Q h k n pc L (.long z :: .long x :: St) := by
  subst hp
  rw [← lrem_mod] at kt
  intro p e s m args below meth c T locs C X N eT
  exact (kt p e s m args below meth c T locs C X N eT).thru fun t q => XS.lrem X.here C.1 rfl (hb C.2.1 hd) rfl hz q
theorem ldiv {x z : Int64} (hd : decode bs pc = .ok (.ldiv, 1)) (hz : z ≠ 0) (hp : pc + 1 = pc') (kt : Go l Z R y bs ml ret n0 Q h k n pc' L (.long (x / z) :: St)) : Go l Z R y bs ml ret n0 Q h k n pc L (.long z :: .long x :: St) := by
  subst hp
  intro p e s m args below meth c T locs C X N eT
  exact (kt p e s m args below meth c T locs C X N eT).thru fun t q => XS.ldiv X.here C.1 rfl (hb C.2.1 hd) rfl hz q
theorem dup {v : Value} (hd : decode bs pc = .ok (.dup, 1)) (hc : v.category = 1) (hp : pc + 1 = pc') (kt : Go l Z R y bs ml ret n0 Q h k n pc' L (v :: v :: St)) : Go l Z R y bs ml ret n0 Q h k n pc L (v :: St) := by
  subst hp
  intro p e s m args below meth c T locs C X N eT
  exact (kt p e s m args below meth c T locs C X N eT).thru fun t q => XS.dup X.here C.1 rfl (hb C.2.1 hd) rfl hc q
theorem pop {v : Value} (hd : decode bs pc = .ok (.pop, 1)) (hc : v.category = 1) (hp : pc + 1 = pc') (kt : Go l Z R y bs ml ret n0 Q h k n pc' L St) : Go l Z R y bs ml ret n0 Q h k n pc L (v :: St) := by
  subst hp
  intro p e s m args below meth c T locs C X N eT
  exact (kt p e s m args below meth c T locs C X N eT).thru fun t q => XS.pop X.here C.1 rfl (hb C.2.1 hd) rfl hc q
theorem dupX1 {v w : Value} (hd : decode bs pc = .ok (.dup_x1, 1)) (hc : v.category = 1) (hw : w.category = 1) (hp : pc + 1 = pc') (kt : Go l Z R y bs ml ret n0 Q h k n pc' L (v :: w :: v :: St)) : Go l Z R y bs ml ret n0 Q h k n pc L (v :: w :: St) := by
  subst hp
  intro p e s m args below meth c T locs C X N eT
  exact (kt p e s m args below meth c T locs C X N eT).thru fun t q => XS.dupX1 X.here C.1 rfl (hb C.2.1 hd) rfl hc hw q
theorem dup2 {v w : Value} (hd : decode bs pc = .ok (.dup2, 1)) (hc : v.category = 1) (hw : w.category = 1) (hp : pc + 1 = pc') (kt : Go l Z R y bs ml ret n0 Q h k n pc' L (v :: w :: v :: w :: St)) : Go l Z R y bs ml ret n0 Q h k n pc L (v :: w :: St) := by
  subst hp
  intro p e s m args below meth c T locs C X N eT
  exact (kt p e s m args below meth c T locs C X N eT).thru fun t q => XT.dup2 X.here C.1 rfl (hb C.2.1 hd) rfl hc hw q
theorem dup2L {x : Int64} (hd : decode bs pc = .ok (.dup2, 1)) (hp : pc + 1 = pc') (kt : Go l Z R y bs ml ret n0 Q h k n pc' L (.long x :: .long x :: St)) : Go l Z R y bs ml ret n0 Q h k n pc L (.long x :: St) := by
  subst hp
  intro p e s m args below meth c T locs C X N eT
  exact (kt p e s m args below meth c T locs C X N eT).thru fun t q => XT.dup2L X.here C.1 rfl (hb C.2.1 hd) rfl q
theorem lconst {i : Fin 2} {v : Int64} (hd : decode bs pc = .ok (.lconst i, 1)) (hv : Int64.ofNat i.val = v) (hp : pc + 1 = pc') (kt : Go l Z R y bs ml ret n0 Q h k n pc' L (.long v :: St)) : Go l Z R y bs ml ret n0 Q h k n pc L St := by
  subst hp hv
  intro p e s m args below meth c T locs C X N eT
  exact (kt p e s m args below meth c T locs C X N eT).thru fun t q => XS.lconst X.here C.1 rfl (hb C.2.1 hd) q
theorem iinc {i : Nat} {cst : Int} {x d : Int32} (hd : decode bs pc = .ok (.iinc i cst, 3)) (hl : L[i]? = some (.val (.int x))) (hv : Int32.ofInt cst = d) (hs : storeLocals L i (.int (x + d)) = some L') (hp : pc + 3 = pc') (kt : Go l Z R y bs ml ret n0 Q h k n pc' L' St) : Go l Z R y bs ml ret n0 Q h k n pc L St := by
  subst hp hv
  intro p e s m args below meth c T locs C X N eT
  exact (kt p e s m args below meth c T locs C X N eT).thru fun t q => XS.iinc X.here C.1 rfl (hb C.2.1 hd) hl hs q
theorem goto {o : Int} (hd : decode bs pc = .ok (.goto o, 3)) (ho : 0 ≤ (pc : Int) + o) (hp : ((pc : Int) + o).toNat = pc') (kt : Go l Z R y bs ml ret n0 Q h k n pc' L St) : Go l Z R y bs ml ret n0 Q h k n pc L St := by
  intro p e s m args below meth c T locs C X N eT
  exact (kt p e s m args below meth c T locs C X N eT).thru fun t q => XS.goto X.here C.1 rfl rfl (hb C.2.1 hd) ho hp q
theorem icmpY {cd : ClassFile.Cond} {o : Int} {x z : Int32} (hd : decode bs pc = .ok (.if_icmp cd o, 3)) (hc : if_icmp.holds cd x z = true) (ho : 0 ≤ (pc : Int) + o) (hp : ((pc : Int) + o).toNat = pc') (kt : Go l Z R y bs ml ret n0 Q h k n pc' L St) : Go l Z R y bs ml ret n0 Q h k n pc L (.int z :: .int x :: St) := by
  intro p e s m args below meth c T locs C X N eT
  exact (kt p e s m args below meth c T locs C X N eT).thru fun t q => XS.icmpYes X.here C.1 rfl rfl (hb C.2.1 hd) rfl hc ho hp q
theorem icmpN {cd : ClassFile.Cond} {o : Int} {x z : Int32} (hd : decode bs pc = .ok (.if_icmp cd o, 3)) (hc : if_icmp.holds cd x z = false) (hp : pc + 3 = pc') (kt : Go l Z R y bs ml ret n0 Q h k n pc' L St) : Go l Z R y bs ml ret n0 Q h k n pc L (.int z :: .int x :: St) := by
  subst hp
  intro p e s m args below meth c T locs C X N eT
  exact (kt p e s m args below meth c T locs C X N eT).thru fun t q => XS.icmpNo X.here C.1 rfl (hb C.2.1 hd) rfl hc q
theorem ifcY {cd : ClassFile.Cond} {o : Int} {x : Int32} (hd : decode bs pc = .ok (.ifCond cd o, 3)) (hc : ifCond.holds cd x = true) (ho : 0 ≤ (pc : Int) + o) (hp : ((pc : Int) + o).toNat = pc') (kt : Go l Z R y bs ml ret n0 Q h k n pc' L St) : Go l Z R y bs ml ret n0 Q h k n pc L (.int x :: St) := by
  intro p e s m args below meth c T locs C X N eT
  exact (kt p e s m args below meth c T locs C X N eT).thru fun t q => XS.ifYes X.here C.1 rfl rfl (hb C.2.1 hd) rfl hc ho hp q
theorem ifcN {cd : ClassFile.Cond} {o : Int} {x : Int32} (hd : decode bs pc = .ok (.ifCond cd o, 3)) (hc : ifCond.holds cd x = false) (hp : pc + 3 = pc') (kt : Go l Z R y bs ml ret n0 Q h k n pc' L St) : Go l Z R y bs ml ret n0 Q h k n pc L (.int x :: St) := by
  subst hp
  intro p e s m args below meth c T locs C X N eT
  exact (kt p e s m args below meth c T locs C X N eT).thru fun t q => XS.ifNo X.here C.1 rfl (hb C.2.1 hd) rfl hc q
theorem ifnullY {o : Int}  (hd : decode bs pc = .ok (.ifnull o, 3)) (ho : 0 ≤ (pc : Int) + o) (hp : ((pc : Int) + o).toNat = pc') (kt : Go l Z R y bs ml ret n0 Q h k n pc' L St) : Go l Z R y bs ml ret n0 Q h k n pc L (.null :: St) := by
  intro p e s m args below meth c T locs C X N eT
  exact (kt p e s m args below meth c T locs C X N eT).thru fun t q => XS.ifnullYes X.here C.1 rfl rfl (hb C.2.1 hd) rfl ho hp q
theorem ifnullN {o : Int} {b : Addr} (hd : decode bs pc = .ok (.ifnull o, 3)) (hp : pc + 3 = pc') (kt : Go l Z R y bs ml ret n0 Q h k n pc' L St) : Go l Z R y bs ml ret n0 Q h k n pc L (.ref b :: St) := by
  subst hp
  intro p e s m args below meth c T locs C X N eT
  exact (kt p e s m args below meth c T locs C X N eT).thru fun t q => XS.ifnullNo X.here C.1 rfl (hb C.2.1 hd) rfl q
theorem ifnonnullY {o : Int} {b : Addr} (hd : decode bs pc = .ok (.ifnonnull o, 3)) (ho : 0 ≤ (pc : Int) + o) (hp : ((pc : Int) + o).toNat = pc') (kt : Go l Z R y bs ml ret n0 Q h k n pc' L St) : Go l Z R y bs ml ret n0 Q h k n pc L (.ref b :: St) := by
  intro p e s m args below meth c T locs C X N eT
  exact (kt p e s m args below meth c T locs C X N eT).thru fun t q => XS.ifnonnullYes X.here C.1 rfl rfl (hb C.2.1 hd) rfl ho hp q
theorem ifnonnullN {o : Int}  (hd : decode bs pc = .ok (.ifnonnull o, 3)) (hp : pc + 3 = pc') (kt : Go l Z R y bs ml ret n0 Q h k n pc' L St) : Go l Z R y bs ml ret n0 Q h k n pc L (.null :: St) := by
  subst hp
  intro p e s m args below meth c T locs C X N eT
  exact (kt p e s m args below meth c T locs C X N eT).thru fun t q => XS.ifnonnullNo X.here C.1 rfl (hb C.2.1 hd) rfl q
theorem acmp {cd : ACond} {o : Int} {x z : Value} {same : Bool} (hd : decode bs pc = .ok (.if_acmp cd o, 3)) (h1 : x.isRef = true) (h2 : z.isRef = true) (hq : decide (x = z) = same) (ho : 0 ≤ (pc : Int) + o) (hp : pc' = if acV cd same = true then ((pc : Int) + o).toNat else pc + 3) (kt : Go l Z R y bs ml ret n0 Q h k n pc' L St) : Go l Z R y bs ml ret n0 Q h k n pc L (z :: x :: St) := by
  intro p e s m args below meth c T locs C X N eT
  exact (kt p e s m args below meth c T locs C X N eT).thru fun t q => Jvm.RoadKit.acmp (g := mkF m pc L (z :: x :: St)) X C.1 rfl h1 h2 rfl (hb C.2.1 hd) rfl hq ho hp q
theorem pop2J {x : Int64} (hd : decode bs pc = .ok (.pop2, 1)) (hp : pc + 1 = pc') (kt : Go l Z R y bs ml ret n0 Q h k n pc' L St) : Go l Z R y bs ml ret n0 Q h k n pc L (.long x :: St) := by
  subst hp
  intro p e s m args below meth c T locs C X N eT
  have hx := C.1
  have hd' := hb C.2.1 hd
  refine (kt p e s m args below meth c T locs C X N eT).thru fun t q => ?_
  show Steps p.tables e below (T.setTop { method := m, pc := pc, locals := L, stack := .long x :: St, locked := none }) t
  jvm_step X.here [X.here.top, hx, hd', Value.category]
  exact q
theorem tswIn {dflt low high : Int} {offs : Array Int} {len : Nat} {o : Int} {i : Int32} (hd : decode bs pc = .ok (.tableswitch dflt low high offs, len)) (hin : ¬ (i.toInt < low ∨ i.toInt > high)) (hoff : offs[(i.toInt - low).toNat]? = some o) (ho : 0 ≤ (pc : Int) + o) (hp : ((pc : Int) + o).toNat = pc') (kt : Go l Z R y bs ml ret n0 Q h k n pc' L St) : Go l Z R y bs ml ret n0 Q h k n pc L (.int i :: St) := by
  intro p e s m args below meth c T locs C X N eT
  exact (kt p e s m args below meth c T locs C X N eT).thru fun t q => XS.tswIn X.here C.1 rfl rfl (hb C.2.1 hd) rfl hin hoff ho hp q
theorem tswOut {dflt low high : Int} {offs : Array Int} {len : Nat} {i : Int32} (hd : decode bs pc = .ok (.tableswitch dflt low high offs, len)) (hout : i.toInt < low ∨ i.toInt > high) (ho : 0 ≤ (pc : Int) + dflt) (hp : ((pc : Int) + dflt).toNat = pc') (kt : Go l Z R y bs ml ret n0 Q h k n pc' L St) : Go l Z R y bs ml ret n0 Q h k n pc L (.int i :: St) := by
  intro p e s m args below meth c T locs C X N eT
  exact (kt p e s m args below meth c T locs C X N eT).thru fun t q => XS.tswOut X.here C.1 rfl rfl (hb C.2.1 hd) rfl hout ho hp q
theorem ret0 (hd : decode bs pc = .ok (.return_, 1)) (hr : ret = none) (hk : k ≤ R.cells) (hn : n ≤ R.slots) (hQ : Q none h) : Go l Z R y bs ml ret n0 Q h k n pc L [] := by
  intro p e s m args below meth c T locs C X N eT
  have hret := C.2.2.2.2.2.1.trans hr
  obtain ⟨fs, hl, hrun, hended, hW, hsame⟩ := X.leave (v := none) (fun _ => rfl) C.2.2.2.2.2.2.1
  exact ⟨_, _, X.returnOut C.1 hret (hb C.2.1 hd) hl, hrun, hended, _, _, rfl, ⟨by show Q none T.heap; rw [eT]; exact hQ, N⟩, ⟨_, rfl⟩, hW, hsame.mono hk hn⟩
theorem retN {t : FieldType} {x x' : Int32} (hd : decode bs pc = .ok (.ireturn, 1)) (hr : ret = some t) (ht : t = .boolean ∨ t = .byte ∨ t = .char ∨ t = .short) (hx : nar t x = x') (hk : k ≤ R.cells) (hn : n ≤ R.slots) (hQ : Q (some (.int x')) h) : Go l Z R y bs ml ret n0 Q h k n pc L (.int x :: St) := by
  intro p e s m args below meth c T locs C X N eT
  have hret := C.2.2.2.2.2.1.trans hr
  subst hx
  obtain ⟨fs, hl, hrun, hended, hW, hsame⟩ := X.leave (v := some (.int (nar t x))) (fun q => by rw [hret] at q; cases q) C.2.2.2.2.2.2.1
  exact ⟨_, _, Jvm.RoadKit.retN X C.1 hret ht (hb C.2.1 hd) hl, hrun, hended, _, _, rfl, ⟨by show Q _ T.heap; rw [eT]; exact hQ, N⟩, ⟨_, rfl⟩, hW, hsame.mono hk hn⟩
theorem retI {x : Int32} (hd : decode bs pc = .ok (.ireturn, 1)) (hr : ret = some .int) (hk : k ≤ R.cells) (hn : n ≤ R.slots) (hQ : Q (some (.int x)) h) : Go l Z R y bs ml ret n0 Q h k n pc L (.int x :: St) := by
  intro p e s m args below meth c T locs C X N eT
  have hret := C.2.2.2.2.2.1.trans hr
  obtain ⟨fs, hl, hrun, hended, hW, hsame⟩ := X.leave (v := some (.int x)) (fun q => by rw [hret] at q; cases q) C.2.2.2.2.2.2.1
  exact ⟨_, _, Jvm.RoadKit.retOut X C.1 hret rfl (Or.inl ⟨rfl, Or.inl rfl, _, rfl⟩) (hb C.2.1 hd) hl, hrun, hended, _, _, rfl, ⟨by show Q _ T.heap; rw [eT]; exact hQ, N⟩, ⟨_, rfl⟩, hW, hsame.mono hk hn⟩
theorem retJ {x : Int64} (hd : decode bs pc = .ok (.lreturn, 1)) (hr : ret = some .long) (hk : k ≤ R.cells) (hn : n ≤ R.slots) (hQ : Q (some (.long x)) h) : Go l Z R y bs ml ret n0 Q h k n pc L (.long x :: St) := by
  intro p e s m args below meth c T locs C X N eT
  have hret := C.2.2.2.2.2.1.trans hr
  obtain ⟨fs, hl, hrun, hended, hW, hsame⟩ := X.leave (v := some (.long x)) (fun q => by rw [hret] at q; cases q) C.2.2.2.2.2.2.1
  exact ⟨_, _, Jvm.RoadKit.retOut X C.1 hret rfl (Or.inr (Or.inl ⟨rfl, rfl, _, rfl⟩)) (hb C.2.1 hd) hl, hrun, hended, _, _, rfl, ⟨by show Q _ T.heap; rw [eT]; exact hQ, N⟩, ⟨_, rfl⟩, hW, hsame.mono hk hn⟩
theorem retD {x : UInt64} (hd : decode bs pc = .ok (.dreturn, 1)) (hr : ret = some .double) (hk : k ≤ R.cells) (hn : n ≤ R.slots) (hQ : Q (some (.double x)) h) : Go l Z R y bs ml ret n0 Q h k n pc L (.double x :: St) := by
  intro p e s m args below meth c T locs C X N eT
  have hret := C.2.2.2.2.2.1.trans hr
  obtain ⟨fs, hl, hrun, hended, hW, hsame⟩ := X.leave (v := some (.double x)) (fun q => by rw [hret] at q; cases q) C.2.2.2.2.2.2.1
  exact ⟨_, _, Jvm.RoadKit.retOut X C.1 hret rfl (Or.inr (Or.inr (Or.inl ⟨rfl, rfl, _, rfl⟩))) (hb C.2.1 hd) hl, hrun, hended, _, _, rfl, ⟨by show Q _ T.heap; rw [eT]; exact hQ, N⟩, ⟨_, rfl⟩, hW, hsame.mono hk hn⟩
theorem retA {t : FieldType} {v : Value} (hd : decode bs pc = .ok (.areturn, 1)) (hr : ret = some t) (ht : t.isReference = true) (hv : v.isRef = true) (hk : k ≤ R.cells) (hn : n ≤ R.slots) (hQ : Q (some v) h) : Go l Z R y bs ml ret n0 Q h k n pc L (v :: St) := by
  intro p e s m args below meth c T locs C X N eT
  have hret := C.2.2.2.2.2.1.trans hr
  obtain ⟨fs, hl, hrun, hended, hW, hsame⟩ := X.leave (v := some v) (fun q => by rw [hret] at q; cases q) C.2.2.2.2.2.2.1
  have hna : narrow t v = v := by rcases ref_cases hv with rfl | ⟨a, rfl⟩ <;> cases t <;> first | rfl | (cases ht)
  exact ⟨_, _, Jvm.RoadKit.retOut X C.1 hret hna (Or.inr (Or.inr (Or.inr (Or.inr ⟨rfl, ht, hv⟩)))) (hb C.2.1 hd) hl, hrun, hended, _, _, rfl, ⟨by show Q _ T.heap; rw [eT]; exact hQ, N⟩, ⟨_, rfl⟩, hW, hsame.mono hk hn⟩
theorem ldcI {index : Nat} {v : Int32} (hd : decode bs pc = .ok (.ldc index, 2)) (w : (Cond.constant y.cls index v).before a0 Z = true) (hp : pc + 2 = pc') (kt : Go l Z R y bs ml ret n0 Q h k n pc' L (.int v :: St)) : Go l Z R y bs ml ret n0 Q h k n pc L St := by
  subst hp
  intro p e s m args below meth c T locs C X N eT
  exact (kt p e s m args below meth c T locs C X N eT).thru (X.ldcInt C.1 C.2.2.2.1 (mvT C.2.2.2.2.2.2.2 w) (g := mkF m pc L St) rfl (hb C.2.1 hd))
theorem ldcwI {index : Nat} {v : Int32} (hd : decode bs pc = .ok (.ldc_w index, 3)) (w : (Cond.constant y.cls index v).before a0 Z = true) (hp : pc + 3 = pc') (kt : Go l Z R y bs ml ret n0 Q h k n pc' L (.int v :: St)) : Go l Z R y bs ml ret n0 Q h k n pc L St := by
  subst hp
  intro p e s m args below meth c T locs C X N eT
  exact (kt p e s m args below meth c T locs C X N eT).thru (X.ldcwInt C.1 C.2.2.2.1 (mvT C.2.2.2.2.2.2.2 w) (g := mkF m pc L St) rfl (hb C.2.1 hd))
theorem ldc2J {index : Nat} {v : Int64} (hd : decode bs pc = .ok (.ldc2_w index, 3)) (w : (Cond.constantLong y.cls index v).before a0 Z = true) (hp : pc + 3 = pc') (kt : Go l Z R y bs ml ret n0 Q h k n pc' L (.long v :: St)) : Go l Z R y bs ml ret n0 Q h k n pc L St := by
  subst hp
  intro p e s m args below meth c T locs C X N eT
  exact (kt p e s m args below meth c T locs C X N eT).thru (X.ldc2Long C.1 C.2.2.2.1 (mvT C.2.2.2.2.2.2.2 w) (g := mkF m pc L St) rfl (hb C.2.1 hd))
theorem getF {R0 O nm d host : String} {index : Nat} {a : Addr} {v : Value} (hd : decode bs pc = .ok (.getfield index, 3)) (w : (Cond.fieldLink y.cls index R0 nm d).before a0 Z = true ∨ (Cond.fieldLinkNest y.cls index R0 nm d host).before a0 Z = true) (via : Via Z R0 O nm d) (F : Fld Z h a O nm d v) (hp : pc + 3 = pc') (kt : Go l Z R y bs ml ret n0 Q h k n pc' L (v :: St)) : Go l Z R y bs ml ret n0 Q h k n pc L (.ref a :: St) := by
  subst hp
  intro p e s m args below meth c T locs C X N eT
  obtain ⟨T', X', e', st⟩ := Jvm.RoadKit.getF X C.1 C.2.2.2.2.2.2.2 C.2.2.2.1 w via eT F (g := mkF m pc L (.ref a :: St)) rfl rfl (hb C.2.1 hd)
  exact (kt p e s m args below meth c T' locs C X' N e').thru st
theorem getS {R0 O nm d host : String} {index : Nat} {v : Value} (hd : decode bs pc = .ok (.getstatic index, 3)) (w : (Cond.fieldLink y.cls index R0 nm d).before a0 Z = true ∨ (Cond.fieldLinkNest y.cls index R0 nm d host).before a0 Z = true) (via : Via Z R0 O nm d) (F : Sta Z h O nm d v) (hp : pc + 3 = pc') (kt : Go l Z R y bs ml ret n0 Q h k n pc' L (v :: St)) : Go l Z R y bs ml ret n0 Q h k n pc L St := by
  subst hp
  intro p e s m args below meth c T locs C X N eT
  obtain ⟨T', X', e', st⟩ := getS2 X C.1 C.2.2.2.2.2.2.2 C.2.2.2.1 w via eT F (g := mkF m pc L St) rfl (hb C.2.1 hd)
  exact (kt p e s m args below meth c T' locs C X' N e').thru st
theorem putF {R0 O nm d host CC : String} {index kk : Nat} {ty : FieldType} {a : Addr} {v old : Value} (hd : decode bs pc = .ok (.putfield index, 3)) (w : (Cond.fieldLink y.cls index R0 nm d).before a0 Z = true ∨ (Cond.fieldLinkNest y.cls index R0 nm d host).before a0 Z = true) (via : Via Z R0 O nm d) (F : Fld Z h a O nm d old) (E : Exa Z h a CC)
    (Ly : (Cond.lays CC O nm d).before a0 Z = true ∨ ((Cond.laysFinal CC O nm d).before a0 Z = true ∧ y.cls = O ∧ y.name = "<init>")) (wi : (Cond.instantiable CC kk).before a0 Z = true) (hty : parseFieldDescriptor d = some ty) (hn : narrow ty v = v) (hf : fits ty v = true) (g : n0 ≤ a) (hp : pc + 3 = pc')
    (kt : ∀ h', Wr h h' a (Jvm.RoadKit.slotOf Z O nm d) v → Go l Z R y bs ml ret n0 Q h' k n pc' L St) : Go l Z R y bs ml ret n0 Q h k n pc L (v :: .ref a :: St) := by
  subst hp
  intro p e s m args below meth c T locs C X N eT
  obtain ⟨T', h', X', e', W', st⟩ := Jvm.RoadKit.putF X C.1 C.2.2.2.2.2.2.2 C.2.2.2.1 w via eT F E (Ly.imp id fun q => ⟨q.1, q.2.1, C.2.2.2.2.1.trans q.2.2⟩) wi hty hn hf (g := mkF m pc L (v :: .ref a :: St)) rfl rfl (hb C.2.1 hd)
  exact (kt h' W' p e s m args below meth c T' _ C X' (Fr.snoc X' N g) e').thru st
theorem putFN {R0 O nm d CC : String} {index kk : Nat} {ty : FieldType} {a : Addr} {v v' old : Value} (hd : decode bs pc = .ok (.putfield index, 3)) (w : (Cond.fieldLink y.cls index R0 nm d).before a0 Z = true) (via : Via Z R0 O nm d) (F : Fld Z h a O nm d old) (E : Exa Z h a CC)
    (Ly : (Cond.lays CC O nm d).before a0 Z = true ∨ ((Cond.laysFinal CC O nm d).before a0 Z = true ∧ y.cls = O ∧ y.name = "<init>")) (wi : (Cond.instantiable CC kk).before a0 Z = true) (hty : parseFieldDescriptor d = some ty) (hn : narrow ty v = v') (hf : fits ty v' = true) (g : n0 ≤ a) (hp : pc + 3 = pc')
    (kt : ∀ h', Wr h h' a (Jvm.RoadKit.slotOf Z O nm d) v' → Go l Z R y bs ml ret n0 Q h' k n pc' L St) : Go l Z R y bs ml ret n0 Q h k n pc L (v :: .ref a :: St) := by
  subst hp
  intro p e s m args below meth c T locs C X N eT
  obtain ⟨T', h', X', e', W', st⟩ := Jvm.RoadKit.putFN X C.1 C.2.2.2.2.2.2.2 C.2.2.2.1 w via eT F E (Ly.imp id fun q => ⟨q.1, q.2.1, C.2.2.2.2.1.trans q.2.2⟩) wi hty hn hf (g := mkF m pc L (v :: .ref a :: St)) rfl rfl (hb C.2.1 hd)
  exact (kt h' W' p e s m args below meth c T' _ C X' (Fr.snoc X' N g) e').thru st
theorem newO {CC : String} {index nn : Nat} (hd : decode bs pc = .ok (.new index, 3)) (w : (Cond.classLink y.cls index CC).before a0 Z = true) (wi : (Cond.instantiable CC nn).before a0 Z = true) (wz : (Cond.initialized CC).before a0 Z = true) (ek : k + 1 = k') (en : n + nn = n') (hc : k' ≤ R.cells) (hl : n' ≤ R.slots) (hp : pc + 3 = pc')
    (kt : ∀ h' a, a = h.size → Ext h h' → Exa Z h' a CC → (∀ {O nm d : String} {ty : FieldType}, Laid Z a0 CC O nm d → parseFieldDescriptor d = some ty → Fld Z h' a O nm d (defaultValue ty)) → Go l Z R y bs ml ret n0 Q h' k' n' pc' L (.ref a :: St)) : Go l Z R y bs ml ret n0 Q h k n pc L St := by
  subst hp ek en
  intro p e s m args below meth c T locs C X N eT
  obtain ⟨T', h', X', e', E, A, D, -, st⟩ := Jvm.RoadKit.newO X C.1 C.2.2.2.2.2.2.2 C.2.2.2.1 w wi wz eT (g := mkF m pc L St) rfl (hb C.2.1 hd) hc hl
  exact (kt h' _ rfl E A D p e s m args below meth c T' _ C X' N e').thru st
theorem newP {aty : ArrayType} {x : Int32} {cap : Nat} (hd : decode bs pc = .ok (.newarray aty, 2)) (w : (Cond.arrayClass (newarray.typeOf aty)).before a0 Z = true) (hn : ¬ x < 0) (hcap : x.toNatClampNeg ≤ cap) (hb' : cap * 8 ≤ 536870912) (ek : k + 1 = k') (en : n + cap = n') (hc : k' ≤ R.cells) (hl : n' ≤ R.slots) (hp : pc + 2 = pc')
    (kt : ∀ h' cA a, a = h.size → Ext h h' → Arr Z h' a (newA cA (newarray.typeOf aty) x) (newarray.typeOf aty) → Go l Z R y bs ml ret n0 Q h' k' n' pc' L (.ref a :: St)) : Go l Z R y bs ml ret n0 Q h k n pc L (.int x :: St) := by
  subst hp ek en
  intro p e s m args below meth c T locs C X N eT
  obtain ⟨T', h', cA, X', e', E, A, st⟩ := Jvm.RoadKit.newP X C.1 C.2.2.2.2.2.2.2 w eT (g := mkF m pc L (.int x :: St)) rfl (hb C.2.1 hd) rfl hn hcap hb' hc hl
  exact (kt h' cA _ rfl E A p e s m args below meth c T' _ C X' N e').thru st
theorem newR {CC : String} {index : Nat} {x : Int32} {cap : Nat} (hd : decode bs pc = .ok (.anewarray index, 3)) (w1 : (Cond.classLink y.cls index CC).before a0 Z = true) (w2 : (Cond.arrayOver (.object CC)).before a0 Z = true) (hn : ¬ x < 0) (hcap : x.toNatClampNeg ≤ cap) (hb' : cap * 8 ≤ 536870912) (ek : k + 1 = k') (en : n + cap = n') (hc : k' ≤ R.cells) (hl : n' ≤ R.slots) (hp : pc + 3 = pc')
    (kt : ∀ h' cA a, a = h.size → Ext h h' → Arr Z h' a (newA cA (.object CC) x) (.object CC) → Ovr Z cA CC → Go l Z R y bs ml ret n0 Q h' k' n' pc' L (.ref a :: St)) : Go l Z R y bs ml ret n0 Q h k n pc L (.int x :: St) := by
  subst hp ek en
  intro p e s m args below meth c T locs C X N eT
  obtain ⟨T', h', cA, X', e', E, A, O, st⟩ := Jvm.RoadKit.newR X C.1 C.2.2.2.2.2.2.2 C.2.2.2.1 w1 w2 eT (g := mkF m pc L (.int x :: St)) rfl (hb C.2.1 hd) rfl hn hcap hb' hc hl
  exact (kt h' cA _ rfl E A O p e s m args below meth c T' _ C X' N e').thru st
theorem stI {a : Addr} {cl : Cell} {j : Int32} {x : Int32} (hd : decode bs pc = .ok (.iastore, 1)) (A : Arr Z h a cl .int) (hj : ¬ (j < 0 ∨ cl.slots.size ≤ j.toNatClampNeg)) (g : n0 ≤ a) (hp : pc + 1 = pc') (kt : ∀ h', Wr h h' a j.toNatClampNeg (.int x) → Go l Z R y bs ml ret n0 Q h' k n pc' L St) : Go l Z R y bs ml ret n0 Q h k n pc L (.int x :: .int j :: .ref a :: St) := by
  subst hp
  intro p e s m args below meth c T locs C X N eT
  obtain ⟨T', h', X', e', W', st⟩ := Jvm.RoadKit.stI X C.1 C.2.2.2.2.2.2.2 eT A hj (g := mkF m pc L (.int x :: .int j :: .ref a :: St)) rfl rfl (hb C.2.1 hd)
  exact (kt h' W' p e s m args below meth c T' _ C X' (Fr.snoc X' N g) e').thru st
theorem stJ {a : Addr} {cl : Cell} {j : Int32} {x : Int64} (hd : decode bs pc = .ok (.lastore, 1)) (A : Arr Z h a cl .long) (hj : ¬ (j < 0 ∨ cl.slots.size ≤ j.toNatClampNeg)) (g : n0 ≤ a) (hp : pc + 1 = pc') (kt : ∀ h', Wr h h' a j.toNatClampNeg (.long x) → Go l Z R y bs ml ret n0 Q h' k n pc' L St) : Go l Z R y bs ml ret n0 Q h k n pc L (.long x :: .int j :: .ref a :: St) := by
  subst hp
  intro p e s m args below meth c T locs C X N eT
  obtain ⟨T', h', X', e', W', st⟩ := Jvm.RoadKit.stJ X C.1 C.2.2.2.2.2.2.2 eT A hj (g := mkF m pc L (.long x :: .int j :: .ref a :: St)) rfl rfl (hb C.2.1 hd)
  exact (kt h' W' p e s m args below meth c T' _ C X' (Fr.snoc X' N g) e').thru st
theorem stB {a : Addr} {cl : Cell} {j : Int32} {x : Int32} (hd : decode bs pc = .ok (.bastore, 1)) (A : Arr Z h a cl .byte) (hj : ¬ (j < 0 ∨ cl.slots.size ≤ j.toNatClampNeg)) (g : n0 ≤ a) (hp : pc + 1 = pc') (kt : ∀ h', Wr h h' a j.toNatClampNeg (.int (nar .byte x)) → Go l Z R y bs ml ret n0 Q h' k n pc' L St) : Go l Z R y bs ml ret n0 Q h k n pc L (.int x :: .int j :: .ref a :: St) := by
  subst hp
  intro p e s m args below meth c T locs C X N eT
  obtain ⟨T', h', X', e', W', st⟩ := Jvm.RoadKit.stB X C.1 C.2.2.2.2.2.2.2 eT A hj (g := mkF m pc L (.int x :: .int j :: .ref a :: St)) rfl rfl (hb C.2.1 hd)
  exact (kt h' W' p e s m args below meth c T' _ C X' (Fr.snoc X' N g) e').thru st
theorem stC {a : Addr} {cl : Cell} {j : Int32} {x : Int32} (hd : decode bs pc = .ok (.castore, 1)) (A : Arr Z h a cl .char) (hj : ¬ (j < 0 ∨ cl.slots.size ≤ j.toNatClampNeg)) (g : n0 ≤ a) (hp : pc + 1 = pc') (kt : ∀ h', Wr h h' a j.toNatClampNeg (.int (nar .char x)) → Go l Z R y bs ml ret n0 Q h' k n pc' L St) : Go l Z R y bs ml ret n0 Q h k n pc L (.int x :: .int j :: .ref a :: St) := by
  subst hp
  intro p e s m args below meth c T locs C X N eT
  obtain ⟨T', h', X', e', W', st⟩ := Jvm.RoadKit.stC X C.1 C.2.2.2.2.2.2.2 eT A hj (g := mkF m pc L (.int x :: .int j :: .ref a :: St)) rfl rfl (hb C.2.1 hd)
  exact (kt h' W' p e s m args below meth c T' _ C X' (Fr.snoc X' N g) e').thru st
theorem stZ {a : Addr} {cl : Cell} {j : Int32} {x : Int32} (hd : decode bs pc = .ok (.bastore, 1)) (A : Arr Z h a cl .boolean) (hj : ¬ (j < 0 ∨ cl.slots.size ≤ j.toNatClampNeg)) (g : n0 ≤ a) (hp : pc + 1 = pc') (kt : ∀ h', Wr h h' a j.toNatClampNeg (.int (nar .boolean x)) → Go l Z R y bs ml ret n0 Q h' k n pc' L St) : Go l Z R y bs ml ret n0 Q h k n pc L (.int x :: .int j :: .ref a :: St) := by
  subst hp
  intro p e s m args below meth c T locs C X N eT
  obtain ⟨T', h', X', e', W', st⟩ := Jvm.RoadKit.stZ X C.1 C.2.2.2.2.2.2.2 eT A hj (g := mkF m pc L (.int x :: .int j :: .ref a :: St)) rfl rfl (hb C.2.1 hd)
  exact (kt h' W' p e s m args below meth c T' _ C X' (Fr.snoc X' N g) e').thru st
theorem stR {a : Addr} {cl : Cell} {ty : FieldType} {j : Int32} {v : Value} (hd : decode bs pc = .ok (.aastore, 1)) (A : Arr Z h a cl ty) (hj : ¬ (j < 0 ∨ cl.slots.size ≤ j.toNatClampNeg)) (hty : ty.isReference = true) (F : Sto Z h a v) (g : n0 ≤ a) (hp : pc + 1 = pc') (kt : ∀ h', Wr h h' a j.toNatClampNeg v → Go l Z R y bs ml ret n0 Q h' k n pc' L St) : Go l Z R y bs ml ret n0 Q h k n pc L (v :: .int j :: .ref a :: St) := by
  subst hp
  intro p e s m args below meth c T locs C X N eT
  obtain ⟨T', h', X', e', W', st⟩ := Jvm.RoadKit.stR X C.1 C.2.2.2.2.2.2.2 eT A hj hty F (g := mkF m pc L (v :: .int j :: .ref a :: St)) rfl rfl (hb C.2.1 hd)
  exact (kt h' W' p e s m args below meth c T' _ C X' (Fr.snoc X' N g) e').thru st
theorem iaload {a : Addr} {cl : Cell} {j : Int32} {v : Value} (hd : decode bs pc = .ok (.iaload, 1)) (A : Arr Z h a cl .int) (hj : ¬ (j < 0 ∨ cl.slots.size ≤ j.toNatClampNeg)) (hv : cl.slots[j.toNatClampNeg]? = some v) (hp : pc + 1 = pc') (kt : Go l Z R y bs ml ret n0 Q h k n pc' L (v :: St)) : Go l Z R y bs ml ret n0 Q h k n pc L (.int j :: .ref a :: St) := by
  subst hp
  intro p e s m args below meth c T locs C X N eT
  exact (kt p e s m args below meth c T locs C X N eT).thru fun t q => X.iaload C.1 (by rw [eT]; exact A.1) (State.isArrayOf_alike C.2.2.2.2.2.2.2.alike A.2.1) A.2.2 hj hv (g := mkF m pc L (.int j :: .ref a :: St)) rfl rfl (hb C.2.1 hd) _ q
theorem laload {a : Addr} {cl : Cell} {j : Int32} {v : Value} (hd : decode bs pc = .ok (.laload, 1)) (A : Arr Z h a cl .long) (hj : ¬ (j < 0 ∨ cl.slots.size ≤ j.toNatClampNeg)) (hv : cl.slots[j.toNatClampNeg]? = some v) (hp : pc + 1 = pc') (kt : Go l Z R y bs ml ret n0 Q h k n pc' L (v :: St)) : Go l Z R y bs ml ret n0 Q h k n pc L (.int j :: .ref a :: St) := by
  subst hp
  intro p e s m args below meth c T locs C X N eT
  exact (kt p e s m args below meth c T locs C X N eT).thru fun t q => X.laload C.1 (by rw [eT]; exact A.1) (State.isArrayOf_alike C.2.2.2.2.2.2.2.alike A.2.1) A.2.2 hj hv (g := mkF m pc L (.int j :: .ref a :: St)) rfl rfl (hb C.2.1 hd) _ q
theorem caload {a : Addr} {cl : Cell} {j : Int32} {v : Value} (hd : decode bs pc = .ok (.caload, 1)) (A : Arr Z h a cl .char) (hj : ¬ (j < 0 ∨ cl.slots.size ≤ j.toNatClampNeg)) (hv : cl.slots[j.toNatClampNeg]? = some v) (hp : pc + 1 = pc') (kt : Go l Z R y bs ml ret n0 Q h k n pc' L (v :: St)) : Go l Z R y bs ml ret n0 Q h k n pc L (.int j :: .ref a :: St) := by
  subst hp
  intro p e s m args below meth c T locs C X N eT
  exact (kt p e s m args below meth c T locs C X N eT).thru fun t q => X.caload C.1 (by rw [eT]; exact A.1) (State.isArrayOf_alike C.2.2.2.2.2.2.2.alike A.2.1) A.2.2 hj hv (g := mkF m pc L (.int j :: .ref a :: St)) rfl rfl (hb C.2.1 hd) _ q
theorem baload {a : Addr} {cl : Cell} {j : Int32} {v : Value} (hd : decode bs pc = .ok (.baload, 1)) (A : Arr Z h a cl .byte) (hj : ¬ (j < 0 ∨ cl.slots.size ≤ j.toNatClampNeg)) (hv : cl.slots[j.toNatClampNeg]? = some v) (hp : pc + 1 = pc') (kt : Go l Z R y bs ml ret n0 Q h k n pc' L (v :: St)) : Go l Z R y bs ml ret n0 Q h k n pc L (.int j :: .ref a :: St) := by
  subst hp
  intro p e s m args below meth c T locs C X N eT
  exact (kt p e s m args below meth c T locs C X N eT).thru fun t q => X.baloadBytes C.1 (by rw [eT]; exact A.1) (State.isArrayOf_alike C.2.2.2.2.2.2.2.alike A.2.1) A.2.2 hj hv (g := mkF m pc L (.int j :: .ref a :: St)) rfl rfl (hb C.2.1 hd) _ q
theorem aaload {a : Addr} {cl : Cell} {ty : FieldType} {j : Int32} {v : Value} (hd : decode bs pc = .ok (.aaload, 1)) (A : Arr Z h a cl ty) (hty : ty.isReference = true) (hj : ¬ (j < 0 ∨ cl.slots.size ≤ j.toNatClampNeg)) (hv : cl.slots[j.toNatClampNeg]? = some v) (hp : pc + 1 = pc') (kt : Go l Z R y bs ml ret n0 Q h k n pc' L (v :: St)) : Go l Z R y bs ml ret n0 Q h k n pc L (.int j :: .ref a :: St) := by
  subst hp
  intro p e s m args below meth c T locs C X N eT
  exact (kt p e s m args below meth c T locs C X N eT).thru fun t q => X.aaload C.1 (by rw [eT]; exact A.1) (State.isArrayOf_alike C.2.2.2.2.2.2.2.alike A.2.1) hty A.2.2 hj hv (g := mkF m pc L (.int j :: .ref a :: St)) rfl rfl (hb C.2.1 hd) _ q
theorem alen {a : Addr} {cl : Cell} {ty : FieldType} {x : Int32} (hd : decode bs pc = .ok (.arraylength, 1)) (A : Arr Z h a cl ty) (hx : cl.slots.size.toInt32 = x) (hp : pc + 1 = pc') (kt : Go l Z R y bs ml ret n0 Q h k n pc' L (.int x :: St)) : Go l Z R y bs ml ret n0 Q h k n pc L (.ref a :: St) := by
  subst hp hx
  intro p e s m args below meth c T locs C X N eT
  exact (kt p e s m args below meth c T locs C X N eT).thru fun t q => X.arraylength C.1 (by rw [eT]; exact A.1) (State.isArrayOf_alike C.2.2.2.2.2.2.2.alike A.2.1) (g := mkF m pc L (.ref a :: St)) rfl rfl (hb C.2.1 hd) _ q
theorem multi22 {index : Nat} {ty : FieldType} {cn : String} (hd : decode bs pc = .ok (.multianewarray index 2, 4)) (w1 : (Cond.classLink y.cls index cn).before a0 Z = true) (hcn : "[" ++ (FieldType.array ty).toString = cn) (w2 : (Cond.arrayOver (.array ty)).before a0 Z = true) (w3 : (Cond.arrayClass ty).before a0 Z = true) (hcb : componentBytes ty ≤ 8) (hdf : fits ty (defaultValue ty) = true) (hdd : (defaultValue ty).isDefault = true) (ek : k + 3 = k') (en : n + 6 = n') (hc : k' ≤ R.cells) (hl : n' ≤ R.slots) (hp : pc + 4 = pc')
    (kt : ∀ h' cA cI a, a = h.size → h'.size = h.size + 3 → Ext h h' → Arv Z h' a cA (.array ty) (2 : Int32) [.ref (a + 1), .ref (a + 2)] .null → Arv Z h' (a + 1) cI ty (2 : Int32) [defaultValue ty, defaultValue ty] (defaultValue ty) → Arv Z h' (a + 2) cI ty (2 : Int32) [defaultValue ty, defaultValue ty] (defaultValue ty) → Z.vm.findClass (FieldType.array ty).toString = some cI → Go l Z R y bs ml ret n0 Q h' k' n' pc' L (.ref a :: St)) : Go l Z R y bs ml ret n0 Q h k n pc L (.int (2 : Int32) :: .int (2 : Int32) :: St) := by
  subst hp ek en hcn
  intro p e s m args below meth c T locs C X N eT
  have hZ := C.2.2.2.2.2.2.2
  have hc2 : (2 : Int32).toNatClampNeg = 2 := by decide
  obtain ⟨vm₁, cA, cI, hW, hfA, hfC, hO, hI, X', st⟩ := X.multianewarray2F C.1 C.2.2.2.1 (mvT hZ w1) ((Cond.arrayOver_setVmC (args := a0) (s := Z) hZ.alike (.array ty)).trans w2) (mvA hZ w3) (g := mkF m pc L (.int (2 : Int32) :: .int (2 : Int32) :: St)) rfl (hb C.2.1 hd) (n := (2 : Int32)) (k := (2 : Int32)) (rest := St) rfl (by decide) (by decide) (by decide) (by rw [hc2]; omega) (by decide) hdf hdd (by rw [hc2]; omega) (by rw [hc2]; omega)
  rw [hc2] at X' st
  subst eT
  obtain ⟨f1, f2, -, -⟩ := Jvm.Free.Multi.fill_facts (T.setVm vm₁) cA cI 2 2 (defaultValue ty) 2
  obtain ⟨o1, o2, o3⟩ := Jvm.Free.Multi.outerC_facts cA 2 (T.setVm vm₁).heap.size 2
  have hsz : (T.setVm vm₁).heap.size = T.heap.size := rfl
  have al : s.vm.Alike Z.vm := hZ.alike.symm
  have EE : Ext T.heap (Jvm.Free.Multi.fill (T.setVm vm₁) cA cI 2 2 (defaultValue ty) 2).heap := ext_of fun a q => Jvm.Free.Multi.fill_old (T.setVm vm₁) cA cI 2 2 (defaultValue ty) q 2
  have inn : ∀ j, j < 2 → Arv Z (Jvm.Free.Multi.fill (T.setVm vm₁) cA cI 2 2 (defaultValue ty) 2).heap (T.heap.size + 1 + j) cI ty (2 : Int32) [defaultValue ty, defaultValue ty] (defaultValue ty) := fun j hj => by
    have hget := Jvm.Free.Multi.fill_inner (T.setVm vm₁) cA cI 2 2 (defaultValue ty) 2 j hj
    refine ⟨_, ⟨hget, State.isArrayOf_alike al (hI 2 (defaultValue ty)).1, (hI 2 (defaultValue ty)).2⟩, rfl, by simp [Jvm.Free.Multi.innerC, hc2], by decide, fun i hi => ?_, fun i hi => ?_⟩
    · simp only [Jvm.Free.Multi.innerC, Array.size_replicate] at hi ⊢
      match i, hi with
      | 0, _ => rfl
      | 1, _ => rfl
    · simp only [Jvm.Free.Multi.innerC, Array.size_replicate] at hi
      match i, hi with
      | 0, _ => exact hdf
      | 1, _ => exact hdf
  have hZc : Z.vm.findClass (FieldType.array ty).toString = some cI := by rw [← hZ.alike.findClass]; exact hfC
  refine (kt _ cA cI T.heap.size rfl f1 EE ?_ (inn 0 (by decide)) (inn 1 (by decide)) hZc p e s m args below meth c _ _ C X' N rfl).thru st
  refine ⟨_, ⟨f2, State.isArrayOf_alike al (hO 2 _ 2).1, (hO 2 _ 2).2⟩, o1, by rw [o3, hc2], by decide, fun i hi => ?_, fun i hi => ?_⟩
  · rw [o3] at hi
    rw [Jvm.Free.Multi.outerC_slot cA 2 _ 2 i hi, if_pos hi]
    match i, hi with
    | 0, _ => rfl
    | 1, _ => rfl
  · rw [o3] at hi
    match i, hi with
    | 0, _ => rfl
    | 1, _ => rfl
theorem castY {KK : String} {index : Nat} {a : Addr} (hd : decode bs pc = .ok (.checkcast index, 3)) (w : (Cond.classLink y.cls index KK).before a0 Z = true) (F : Ins Z h a KK true) (hp : pc + 3 = pc') (kt : Go l Z R y bs ml ret n0 Q h k n pc' L (.ref a :: St)) : Go l Z R y bs ml ret n0 Q h k n pc L (.ref a :: St) := by
  subst hp
  intro p e s m args below meth c T locs C X N eT
  obtain ⟨T', X', e', st⟩ := Jvm.RoadKit.castY X C.1 C.2.2.2.2.2.2.2 C.2.2.2.1 w eT F (g := mkF m pc L (.ref a :: St)) rfl rfl (hb C.2.1 hd)
  exact (kt p e s m args below meth c T' locs C X' N e').thru st
theorem instY {KK : String} {index : Nat} {a : Addr} (hd : decode bs pc = .ok (.instanceof index, 3)) (w : (Cond.classLink y.cls index KK).before a0 Z = true) (F : Ins Z h a KK true) (hp : pc + 3 = pc') (kt : Go l Z R y bs ml ret n0 Q h k n pc' L (.int 1 :: St)) : Go l Z R y bs ml ret n0 Q h k n pc L (.ref a :: St) := by
  subst hp
  intro p e s m args below meth c T locs C X N eT
  obtain ⟨T', X', e', st⟩ := Jvm.RoadKit.instY X C.1 C.2.2.2.2.2.2.2 C.2.2.2.1 w eT F (g := mkF m pc L (.ref a :: St)) rfl rfl (hb C.2.1 hd)
  exact (kt p e s m args below meth c T' locs C X' N e').thru st
theorem instNo {KK CC : String} {index : Nat} {a : Addr} (hd : decode bs pc = .ok (.instanceof index, 3)) (w : (Cond.classLink y.cls index KK).before a0 Z = true) (E : Exa Z h a CC) (F : ∃ c t, Z.vm.findClass CC = some c ∧ Z.vm.findClass KK = some t ∧ Z.vm.assignable c t = false) (hp : pc + 3 = pc') (kt : Go l Z R y bs ml ret n0 Q h k n pc' L (.int 0 :: St)) : Go l Z R y bs ml ret n0 Q h k n pc L (.ref a :: St) := by
  subst hp
  intro p e s m args below meth c T locs C X N eT
  obtain ⟨T', X', e', st⟩ := Jvm.RoadKit.instNo X C.1 C.2.2.2.2.2.2.2 C.2.2.2.1 w eT E F (g := mkF m pc L (.ref a :: St)) rfl rfl (hb C.2.1 hd)
  exact (kt p e s m args below meth c T' locs C X' N e').thru st
theorem instNull {index : Nat} (hd : decode bs pc = .ok (.instanceof index, 3)) (hp : pc + 3 = pc') (kt : Go l Z R y bs ml ret n0 Q h k n pc' L (.int 0 :: St)) : Go l Z R y bs ml ret n0 Q h k n pc L (.null :: St) := by
  subst hp
  intro p e s m args below meth c T locs C X N eT
  exact (kt p e s m args below meth c T locs C X N eT).thru (X.instanceofNull C.1 (g := mkF m pc L (.null :: St)) rfl rfl (hb C.2.1 hd))
theorem castNull {index : Nat} (hd : decode bs pc = .ok (.checkcast index, 3)) (hp : pc + 3 = pc') (kt : Go l Z R y bs ml ret n0 Q h k n pc' L (.null :: St)) : Go l Z R y bs ml ret n0 Q h k n pc L (.null :: St) := by
  subst hp
  intro p e s m args below meth c T locs C X N eT
  exact (kt p e s m args below meth c T locs C X N eT).thru (X.checkcastNull C.1 (g := mkF m pc L (.null :: St)) rfl rfl (hb C.2.1 hd))
theorem initO {index : Nat} {a : Addr} {W : Nat} (hd : decode bs pc = .ok (.invokespecial index, 3)) (w1 : (Cond.methodLink y.cls index Lib.objectInit).before a0 Z = true) (w2 : (Cond.instanceMethod Lib.objectInit).before a0 Z = true) (w3 : (Cond.code Lib.objectInit ⟨#[0xb1]⟩ 1 none).before a0 Z = true) (hsz : L.size = ml) (hf : 1 ≤ R.frames) (hW : (St.map fun v => v.category).sum ≤ W) (hl : W + 12 ≤ R.locals) (hp : pc + 3 = pc') (kt : Go l Z R y bs ml ret n0 Q h k n pc' L St) : Go l Z R y bs ml ret n0 Q h k n pc L (.ref a :: St) := by
  subst hp
  intro p e s m args below meth c T locs C X N eT
  obtain ⟨T', X', e', st⟩ := Jvm.RoadKit.initO X C.1 C.2.2.2.2.2.2.2 C.2.2.2.1 w1 w2 w3 eT (g := mkF m pc L (.ref a :: St)) rfl (by rw [C.2.2.1]; exact hsz) rfl (hb C.2.1 hd) hf (W := W) (by show 2 * 0 + _ ≤ _; omega) hl
  exact (kt p e s m args below meth c T' locs C X' N e').thru st
theorem callS {z : MethodName} {bz : ByteArray} {mz : Nat} {rz : Option FieldType} {rm : Room} {as' : Array Value} {Q' : Option Value → Heap → Prop} {W : Nat} {argsL rest : List Value} {ps : List FieldType} {rt : Option FieldType} {index : Nat} (hd : decode bs pc = .ok (.invokestatic index, 3)) (w1 : (Cond.methodLink y.cls index z).before a0 Z = true) (w2 : (Cond.static z).before a0 Z = true) (w3 : (Cond.initialized z.cls).before a0 Z = true) (w4 : (Cond.code z bz mz rz).before a0 Z = true) (hy : z.cls ≠ "java/lang/invoke/MethodHandle" ∧ z.cls ≠ "java/lang/invoke/VarHandle")
    (con : Con l Z rm z bz mz rz n0 as' h Q') (hf : rm.frames + 1 ≤ R.frames) (hl : W + (mz + 11) + rm.locals ≤ R.locals) (ek : k + rm.cells = k') (en : n + rm.slots = n') (hc : k' ≤ R.cells) (hn : n' ≤ R.slots) (hsz : L.size = ml) (pd : parseMethodDescriptor z.desc = some ⟨ps, rt⟩) (hlen : argsL.length = ps.length) (hst : St = argsL.reverse ++ rest) (has : as' = argsL.toArray) (hW : (rest.map fun v => v.category).sum ≤ W) (hp : pc + 3 = pc')
    (kt : ∀ h' v, Q' v h' → Go l Z R y bs ml ret n0 Q h' k' n' pc' L (v.toList ++ rest)) : Go l Z R y bs ml ret n0 Q h k n pc L St := by
  subst hp has ek en
  intro p e s m args below meth c T locs C X N eT
  have hZ := C.2.2.2.2.2.2.2
  obtain ⟨v, _, ⟨T', Lp, kp, np⟩, -, X', ⟨Lc, ⟨hQ, N'⟩, e1, e2, e3⟩, st⟩ := Jvm.LawKit.callS X C.1 (y := z) C.2.2.2.1 (mvT hZ w1) (mvT hZ w2) (mvT hZ w3) (mvT hZ w4) hy (backOf (W := W) (Q := fun v h' L => Q' v h' ∧ Fr n0 L) (con []) hZ w4 w3 hf hl) (g := mkF m pc L St) rfl (by rw [C.2.2.1]; exact hsz) (argsL := argsL) (rest := rest) (lenOf pd hlen) hst (by show 2 * 0 + _ ≤ _; omega) (hb C.2.1 hd) (fun _ _ => ⟨rfl, eT, hc, hn⟩)
  dsimp only [Pt.U, Pt.locs, Pt.cells, Pt.slots] at X' e1 e2 e3 st hQ
  subst e1 e2 e3
  exact (kt T'.heap v hQ p e s m args below meth c T' _ C X' (Fr.app N N') rfl).thru st
theorem callI {z : MethodName} {bz : ByteArray} {mz : Nat} {rm : Room} {as' : Array Value} {Q' : Option Value → Heap → Prop} {W : Nat} {argsL rest : List Value} {ps : List FieldType} {rt : Option FieldType} {index : Nat} {a : Addr} (hd : decode bs pc = .ok (.invokespecial index, 3)) (hi : z.name = "<init>") (w1 : (Cond.methodLink y.cls index z).before a0 Z = true) (w2 : (Cond.instanceMethod z).before a0 Z = true) (w3 : (Cond.initialized z.cls).before a0 Z = true) (w4 : (Cond.code z bz mz none).before a0 Z = true) (hy : z.cls ≠ "java/lang/invoke/MethodHandle" ∧ z.cls ≠ "java/lang/invoke/VarHandle")
    (con : Con l Z rm z bz mz none n0 as' h Q') (hf : rm.frames + 1 ≤ R.frames) (hl : W + (mz + 11) + rm.locals ≤ R.locals) (ek : k + rm.cells = k') (en : n + rm.slots = n') (hc : k' ≤ R.cells) (hn : n' ≤ R.slots) (hsz : L.size = ml) (pd : parseMethodDescriptor z.desc = some ⟨ps, rt⟩) (hlen : argsL.length = ps.length) (hst : St = argsL.reverse ++ .ref a :: rest) (has : as' = (.ref a :: argsL).toArray) (hW : (rest.map fun v => v.category).sum ≤ W) (hp : pc + 3 = pc')
    (kt : ∀ h' v, Q' v h' → Go l Z R y bs ml ret n0 Q h' k' n' pc' L (v.toList ++ rest)) : Go l Z R y bs ml ret n0 Q h k n pc L St := by
  subst hp has ek en
  intro p e s m args below meth c T locs C X N eT
  have hZ := C.2.2.2.2.2.2.2
  obtain ⟨v, _, ⟨T', Lp, kp, np⟩, -, X', ⟨Lc, ⟨hQ, N'⟩, e1, e2, e3⟩, st⟩ := X.specialBack C.1 (y := z) hi C.2.2.2.1 (mvT hZ w1) (mvT hZ w2) (mvT hZ w4) hy (backOf (W := W) (Q := fun v h' L => Q' v h' ∧ Fr n0 L) (con []) hZ w4 w3 hf hl) (g := mkF m pc L St) rfl (by rw [C.2.2.1]; exact hsz) (Steps.refl _) (a := a) (argsL := argsL) (rest := rest) (lenOf pd hlen) hst (by show 2 * 0 + _ ≤ _; omega) (hb C.2.1 hd) (fun _ _ => ⟨rfl, eT, hc, hn⟩)
  dsimp only [Pt.U, Pt.locs, Pt.cells, Pt.slots] at X' e1 e2 e3 st hQ
  subst e1 e2 e3
  exact (kt T'.heap v hQ p e s m args below meth c T' _ C X' (Fr.app N N') rfl).thru fun t q => st.trans q
theorem callV {z : MethodName} {bz : ByteArray} {mz : Nat} {rz : Option FieldType} {rm : Room} {as' : Array Value} {Q' : Option Value → Heap → Prop} {W : Nat} {argsL rest : List Value} {ps : List FieldType} {rt : Option FieldType} {index : Nat} {CC : String} {a : Addr} (hd : decode bs pc = .ok (.invokevirtual index, 3)) (w1 : (Cond.methodLink y.cls index z).before a0 Z = true) (w2 : (Cond.declares z).before a0 Z = true) (ws : (Cond.selects CC z z).before a0 Z = true) (wi : (Cond.instanceMethod z).before a0 Z = true) (w3 : (Cond.initialized z.cls).before a0 Z = true) (w4 : (Cond.code z bz mz rz).before a0 Z = true) (hy : z.cls ≠ "java/lang/invoke/MethodHandle" ∧ z.cls ≠ "java/lang/invoke/VarHandle") (E : Exa Z h a CC)
    (con : Con l Z rm z bz mz rz n0 as' h Q') (hf : rm.frames + 1 ≤ R.frames) (hl : W + (mz + 11) + rm.locals ≤ R.locals) (ek : k + rm.cells = k') (en : n + rm.slots = n') (hc : k' ≤ R.cells) (hn : n' ≤ R.slots) (hsz : L.size = ml) (pd : parseMethodDescriptor z.desc = some ⟨ps, rt⟩) (hlen : argsL.length = ps.length) (hst : St = argsL.reverse ++ .ref a :: rest) (has : as' = (.ref a :: argsL).toArray) (hW : (rest.map fun v => v.category).sum ≤ W) (hp : pc + 3 = pc')
    (kt : ∀ h' v, Q' v h' → Go l Z R y bs ml ret n0 Q h' k' n' pc' L (v.toList ++ rest)) : Go l Z R y bs ml ret n0 Q h k n pc L St := by
  subst hp has ek en
  intro p e s m args below meth c T locs C X N eT
  have hZ := C.2.2.2.2.2.2.2
  obtain ⟨cq, kq, qa, qb, qc⟩ := isOf hZ eT E
  obtain ⟨v, _, ⟨T', Lp, kp, np⟩, -, X', ⟨Lc, ⟨hQ, N'⟩, e1, e2, e3⟩, st⟩ := X.virtualBack C.1 (y := z) (z := z) C.2.2.2.1 (mvT hZ w1) (mvT hZ w2) (notFace_of_selects (args := #[]) (mvT hZ ws)) (mvT hZ ws) (mvT hZ wi) hy (backOf (W := W) (Q := fun v h' L => Q' v h' ∧ Fr n0 L) (con []) hZ w4 w3 hf hl) qa qc (g := mkF m pc L St) rfl (by rw [C.2.2.1]; exact hsz) (Steps.refl _) (argsL := argsL) (rest := rest) (lenOf pd hlen) hst (by show 2 * 0 + _ ≤ _; omega) (hb C.2.1 hd) (fun _ _ => ⟨rfl, eT, hc, hn⟩)
  dsimp only [Pt.U, Pt.locs, Pt.cells, Pt.slots] at X' e1 e2 e3 st hQ
  subst e1 e2 e3
  exact (kt T'.heap v hQ p e s m args below meth c T' _ C X' (Fr.app N N') rfl).thru fun t q => st.trans q
theorem callVF {z : MethodName} {bz : ByteArray} {mz : Nat} {rz : Option FieldType} {rm : Room} {as' : Array Value} {Q' : Option Value → Heap → Prop} {W : Nat} {argsL rest : List Value} {ps : List FieldType} {rt : Option FieldType} {index cnt : Nat} {x' : MethodName} {CC : String} {a : Addr} (hd : decode bs pc = .ok (.invokeinterface index cnt, 5)) (w1 : (Cond.methodLink y.cls index x').before a0 Z = true) (w2 : (Cond.declares x').before a0 Z = true) (wf : (Cond.interfaceMethod x'.cls x'.cls x'.name x'.desc).before a0 Z = true) (ws : (Cond.selects CC x' z).before a0 Z = true) (wi : (Cond.instanceMethod z).before a0 Z = true) (wp : (Cond.publicMethod z).before a0 Z = true) (wu : (Cond.unhidden CC x'.name x'.desc).before a0 Z = true) (wc : (Cond.castable CC x'.cls).before a0 Z = true) (w3 : (Cond.initialized z.cls).before a0 Z = true) (w4 : (Cond.code z bz mz rz).before a0 Z = true) (hy : x'.cls ≠ "java/lang/invoke/MethodHandle" ∧ x'.cls ≠ "java/lang/invoke/VarHandle") (E : Exa Z h a CC)
    (con : Con l Z rm z bz mz rz n0 as' h Q') (hf : rm.frames + 1 ≤ R.frames) (hl : W + (mz + 11) + rm.locals ≤ R.locals) (ek : k + rm.cells = k') (en : n + rm.slots = n') (hc : k' ≤ R.cells) (hn : n' ≤ R.slots) (hsz : L.size = ml) (pd : parseMethodDescriptor x'.desc = some ⟨ps, rt⟩) (hlen : argsL.length = ps.length) (hst : St = argsL.reverse ++ .ref a :: rest) (has : as' = (.ref a :: argsL).toArray) (hW : (rest.map fun v => v.category).sum ≤ W) (hp : pc + 5 = pc')
    (kt : ∀ h' v, Q' v h' → Go l Z R y bs ml ret n0 Q h' k' n' pc' L (v.toList ++ rest)) : Go l Z R y bs ml ret n0 Q h k n pc L St := by
  subst hp has ek en
  intro p e s m args below meth c T locs C X N eT
  have hZ := C.2.2.2.2.2.2.2
  obtain ⟨cq, kq, qa, qb, qc⟩ := isOf hZ eT E
  obtain ⟨v, _, ⟨T', Lp, kp, np⟩, -, X', ⟨Lc, ⟨hQ, N'⟩, e1, e2, e3⟩, st⟩ := X.interfaceBack C.1 (xi := x') (y := z) C.2.2.2.1 (mvT hZ w1) (mvT hZ w2) (mvT hZ wf (by have g1 := hy.1; have g2 := hy.2; simp [Cond.onTables, Cond.keepsFace, Cond.keeps, Cond.steady, Cond.faceAtom, g1, g2])) (mvT hZ ws) (mvT hZ wi) (mvT hZ wp) (mvT hZ wu) (mvT hZ wc) hy (backOf (W := W) (Q := fun v h' L => Q' v h' ∧ Fr n0 L) (con []) hZ w4 w3 hf hl) qa qb qc (g := mkF m pc L St) rfl (by rw [C.2.2.1]; exact hsz) (Steps.refl _) (argsL := argsL) (rest := rest) (lenOf pd hlen) hst (by show 2 * 0 + _ ≤ _; omega) (hb C.2.1 hd) (fun _ _ => ⟨rfl, eT, hc, hn⟩)
  dsimp only [Pt.U, Pt.locs, Pt.cells, Pt.slots] at X' e1 e2 e3 st hQ
  subst e1 e2 e3
  exact (kt T'.heap v hQ p e s m args below meth c T' _ C X' (Fr.app N N') rfl).thru fun t q => st.trans q
theorem callP {z : MethodName} {bz : ByteArray} {mz : Nat} {rz : Option FieldType} {rm : Room} {as' : Array Value} {Q' : Option Value → Heap → Prop} {W : Nat} {argsL rest : List Value} {ps : List FieldType} {rt : Option FieldType} {index : Nat} {a : Addr} {CC : String} (hd : decode bs pc = .ok (.invokevirtual index, 3)) (w1 : (Cond.methodLink y.cls index z).before a0 Z = true) (wi : (Cond.instanceMethod z).before a0 Z = true) {nn : Nat} (win : (Cond.instantiable z.cls nn).before a0 Z = true) (wp : (Cond.privateMethod z).before a0 Z = true) (w3 : (Cond.initialized z.cls).before a0 Z = true) (w4 : (Cond.code z bz mz rz).before a0 Z = true) (hy : z.cls ≠ "java/lang/invoke/MethodHandle" ∧ z.cls ≠ "java/lang/invoke/VarHandle") (E : Exa Z h a CC)
    (con : Con l Z rm z bz mz rz n0 as' h Q') (hf : rm.frames + 1 ≤ R.frames) (hl : W + (mz + 11) + rm.locals ≤ R.locals) (ek : k + rm.cells = k') (en : n + rm.slots = n') (hc : k' ≤ R.cells) (hn : n' ≤ R.slots) (hsz : L.size = ml) (pd : parseMethodDescriptor z.desc = some ⟨ps, rt⟩) (hlen : argsL.length = ps.length) (hst : St = argsL.reverse ++ .ref a :: rest) (has : as' = (.ref a :: argsL).toArray) (hW : (rest.map fun v => v.category).sum ≤ W) (hp : pc + 3 = pc')
    (kt : ∀ h' v, Q' v h' → Go l Z R y bs ml ret n0 Q h' k' n' pc' L (v.toList ++ rest)) : Go l Z R y bs ml ret n0 Q h k n pc L St := by
  subst hp has ek en
  intro p e s m args below meth c T locs C X N eT
  have hZ := C.2.2.2.2.2.2.2
  have ws : (Cond.selects z.cls z z).before a0 Z = true := by
    obtain ⟨t, kt, g1, g2, g3, g4, -, -⟩ := Cond.instantiable_spec win
    exact selects_self_of_private g1 g2 (Bool.or_eq_false_iff.mp g4).1 (Cond.privateMethod_at wp) wi hy
  obtain ⟨cq, qa, qb⟩ := E.cell
  obtain ⟨v, _, ⟨T', Lp, kp, np⟩, -, X', ⟨Lc, ⟨hQ, N'⟩, e1, e2, e3⟩, st⟩ := X.privateBack C.1 (y := z) C.2.2.2.1 (mvT hZ w1) (mvT hZ wi) (mvT hZ ws) (Cond.privateMethod_at (mvP hZ wp (args := #[]))) (mvT hZ w4) hy (backOf (W := W) (Q := fun v h' L => Q' v h' ∧ Fr n0 L) (con []) hZ w4 w3 hf hl) (g := mkF m pc L St) rfl (by rw [C.2.2.1]; exact hsz) (Steps.refl _) (a := a) (by rw [eT]; exact qa) qb (argsL := argsL) (rest := rest) (lenOf pd hlen) hst (by show 2 * 0 + _ ≤ _; omega) (hb C.2.1 hd) (fun _ _ => ⟨rfl, eT, hc, hn⟩)
  dsimp only [Pt.U, Pt.locs, Pt.cells, Pt.slots] at X' e1 e2 e3 st hQ
  subst e1 e2 e3
  exact (kt T'.heap v hQ p e s m args below meth c T' _ C X' (Fr.app N N') rfl).thru fun t q => st.trans q
theorem callS0 {z : MethodName} {bz : ByteArray} {mz : Nat} {rz : Option FieldType} {rm : Room} {as' : Array Value} {r : Option Value} {St' : List Value} {W : Nat} {argsL rest : List Value} {ps : List FieldType} {rt : Option FieldType} {index : Nat} (hd : decode bs pc = .ok (.invokestatic index, 3)) (w1 : (Cond.methodLink y.cls index z).before a0 Z = true) (w2 : (Cond.static z).before a0 Z = true) (w3 : (Cond.initialized z.cls).before a0 Z = true) (w4 : (Cond.code z bz mz rz).before a0 Z = true) (hy : z.cls ≠ "java/lang/invoke/MethodHandle" ∧ z.cls ≠ "java/lang/invoke/VarHandle")
    (con : Con l Z rm z bz mz rz n0 as' h (Ret r h)) (hf : rm.frames + 1 ≤ R.frames) (hl : W + (mz + 11) + rm.locals ≤ R.locals) (ek : k + rm.cells = k') (en : n + rm.slots = n') (hc : k' ≤ R.cells) (hn : n' ≤ R.slots) (hsz : L.size = ml) (pd : parseMethodDescriptor z.desc = some ⟨ps, rt⟩) (hlen : argsL.length = ps.length) (hst : St = argsL.reverse ++ rest) (has : as' = argsL.toArray) (hW : (rest.map fun v => v.category).sum ≤ W) (hs : r.toList ++ rest = St') (hp : pc + 3 = pc')
    (kt : Go l Z R y bs ml ret n0 Q h k' n' pc' L St') : Go l Z R y bs ml ret n0 Q h k n pc L St := by
  subst hs
  refine callS hd w1 w2 w3 w4 hy con hf hl ek en hc hn hsz pd hlen hst has hW hp ?_
  rintro h' v ⟨rfl, rfl⟩
  exact kt
theorem callI0 {z : MethodName} {bz : ByteArray} {mz : Nat} {rm : Room} {as' : Array Value} {r : Option Value} {St' : List Value} {W : Nat} {argsL rest : List Value} {ps : List FieldType} {rt : Option FieldType} {index : Nat} {a : Addr} (hd : decode bs pc = .ok (.invokespecial index, 3)) (hi : z.name = "<init>") (w1 : (Cond.methodLink y.cls index z).before a0 Z = true) (w2 : (Cond.instanceMethod z).before a0 Z = true) (w3 : (Cond.initialized z.cls).before a0 Z = true) (w4 : (Cond.code z bz mz none).before a0 Z = true) (hy : z.cls ≠ "java/lang/invoke/MethodHandle" ∧ z.cls ≠ "java/lang/invoke/VarHandle")
    (con : Con l Z rm z bz mz none n0 as' h (Ret r h)) (hf : rm.frames + 1 ≤ R.frames) (hl : W + (mz + 11) + rm.locals ≤ R.locals) (ek : k + rm.cells = k') (en : n + rm.slots = n') (hc : k' ≤ R.cells) (hn : n' ≤ R.slots) (hsz : L.size = ml) (pd : parseMethodDescriptor z.desc = some ⟨ps, rt⟩) (hlen : argsL.length = ps.length) (hst : St = argsL.reverse ++ .ref a :: rest) (has : as' = (.ref a :: argsL).toArray) (hW : (rest.map fun v => v.category).sum ≤ W) (hs : r.toList ++ rest = St') (hp : pc + 3 = pc')
    (kt : Go l Z R y bs ml ret n0 Q h k' n' pc' L St') : Go l Z R y bs ml ret n0 Q h k n pc L St := by
  subst hs
  refine callI hd hi w1 w2 w3 w4 hy con hf hl ek en hc hn hsz pd hlen hst has hW hp ?_
  rintro h' v ⟨rfl, rfl⟩
  exact kt
theorem callV0 {z : MethodName} {bz : ByteArray} {mz : Nat} {rz : Option FieldType} {rm : Room} {as' : Array Value} {r : Option Value} {St' : List Value} {W : Nat} {argsL rest : List Value} {ps : List FieldType} {rt : Option FieldType} {index : Nat} {CC : String} {a : Addr} (hd : decode bs pc = .ok (.invokevirtual index, 3)) (w1 : (Cond.methodLink y.cls index z).before a0 Z = true) (w2 : (Cond.declares z).before a0 Z = true) (ws : (Cond.selects CC z z).before a0 Z = true) (wi : (Cond.instanceMethod z).before a0 Z = true) (w3 : (Cond.initialized z.cls).before a0 Z = true) (w4 : (Cond.code z bz mz rz).before a0 Z = true) (hy : z.cls ≠ "java/lang/invoke/MethodHandle" ∧ z.cls ≠ "java/lang/invoke/VarHandle") (E : Exa Z h a CC)
    (con : Con l Z rm z bz mz rz n0 as' h (Ret r h)) (hf : rm.frames + 1 ≤ R.frames) (hl : W + (mz + 11) + rm.locals ≤ R.locals) (ek : k + rm.cells = k') (en : n + rm.slots = n') (hc : k' ≤ R.cells) (hn : n' ≤ R.slots) (hsz : L.size = ml) (pd : parseMethodDescriptor z.desc = some ⟨ps, rt⟩) (hlen : argsL.length = ps.length) (hst : St = argsL.reverse ++ .ref a :: rest) (has : as' = (.ref a :: argsL).toArray) (hW : (rest.map fun v => v.category).sum ≤ W) (hs : r.toList ++ rest = St') (hp : pc + 3 = pc')
    (kt : Go l Z R y bs ml ret n0 Q h k' n' pc' L St') : Go l Z R y bs ml ret n0 Q h k n pc L St := by
  subst hs
  refine callV hd w1 w2 ws wi w3 w4 hy E con hf hl ek en hc hn hsz pd hlen hst has hW hp ?_
  rintro h' v ⟨rfl, rfl⟩
  exact kt
theorem callVF0 {z : MethodName} {bz : ByteArray} {mz : Nat} {rz : Option FieldType} {rm : Room} {as' : Array Value} {r : Option Value} {St' : List Value} {W : Nat} {argsL rest : List Value} {ps : List FieldType} {rt : Option FieldType} {index cnt : Nat} {x' : MethodName} {CC : String} {a : Addr} (hd : decode bs pc = .ok (.invokeinterface index cnt, 5)) (w1 : (Cond.methodLink y.cls index x').before a0 Z = true) (w2 : (Cond.declares x').before a0 Z = true) (wf : (Cond.interfaceMethod x'.cls x'.cls x'.name x'.desc).before a0 Z = true) (ws : (Cond.selects CC x' z).before a0 Z = true) (wi : (Cond.instanceMethod z).before a0 Z = true) (wp : (Cond.publicMethod z).before a0 Z = true) (wu : (Cond.unhidden CC x'.name x'.desc).before a0 Z = true) (wc : (Cond.castable CC x'.cls).before a0 Z = true) (w3 : (Cond.initialized z.cls).before a0 Z = true) (w4 : (Cond.code z bz mz rz).before a0 Z = true) (hy : x'.cls ≠ "java/lang/invoke/MethodHandle" ∧ x'.cls ≠ "java/lang/invoke/VarHandle") (E : Exa Z h a CC)
    (con : Con l Z rm z bz mz rz n0 as' h (Ret r h)) (hf : rm.frames + 1 ≤ R.frames) (hl : W + (mz + 11) + rm.locals ≤ R.locals) (ek : k + rm.cells = k') (en : n + rm.slots = n') (hc : k' ≤ R.cells) (hn : n' ≤ R.slots) (hsz : L.size = ml) (pd : parseMethodDescriptor x'.desc = some ⟨ps, rt⟩) (hlen : argsL.length = ps.length) (hst : St = argsL.reverse ++ .ref a :: rest) (has : as' = (.ref a :: argsL).toArray) (hW : (rest.map fun v => v.category).sum ≤ W) (hs : r.toList ++ rest = St') (hp : pc + 5 = pc')
    (kt : Go l Z R y bs ml ret n0 Q h k' n' pc' L St') : Go l Z R y bs ml ret n0 Q h k n pc L St := by
  subst hs
  refine callVF hd w1 w2 wf ws wi wp wu wc w3 w4 hy E con hf hl ek en hc hn hsz pd hlen hst has hW hp ?_
  rintro h' v ⟨rfl, rfl⟩
  exact kt
end Laws
end Jvm.OwnW
namespace Jvm.Pilot.@@N@@
open Jvm Jvm.ClassFile Sem Op Lib Jvm.Free Jvm.Stand Jvm.LawKit Jvm.RoadKit Bundle Jvm.OwnW Jvm.Pilot.@@N@@.Jvm.D
theorem pd_2829Z : parseMethodDescriptor "()Z" = some ⟨[], some .boolean⟩ := by decide +kernel
theorem d1_0 : decode prog_54_method_5_code 0 = .ok (.aload_n 0, 1) := by decide +kernel
theorem d1_1 : decode prog_54_method_5_code 1 = .ok (.getstatic 3, 3) := by decide +kernel
theorem d1_4 : decode prog_54_method_5_code 4 = .ok (.if_acmp .eq 10, 3) := by decide +kernel
theorem d1_7 : decode prog_54_method_5_code 7 = .ok (.aload_n 0, 1) := by decide +kernel
theorem d1_8 : decode prog_54_method_5_code 8 = .ok (.getstatic 7, 3) := by decide +kernel
theorem d1_11 : decode prog_54_method_5_code 11 = .ok (.if_acmp .ne 7, 3) := by decide +kernel
theorem d1_14 : decode prog_54_method_5_code 14 = .ok (.iconst 1, 1) := by decide +kernel
theorem d1_15 : decode prog_54_method_5_code 15 = .ok (.goto 4, 3) := by decide +kernel
theorem d1_18 : decode prog_54_method_5_code 18 = .ok (.iconst 0, 1) := by decide +kernel
theorem d1_19 : decode prog_54_method_5_code 19 = .ok (.ireturn, 1) := by decide +kernel
def f1 (o : Addr) (e_ELECTIVE : Addr) (e_ROTH : Addr) : Int32 := (if o = e_ELECTIVE then (1 : Int32) else (if o = e_ROTH then (1 : Int32) else (0 : Int32)))
abbrev GoB1 (l : Launch) (Z : State) (n0 : Nat) (Q : Option Value → Heap → Prop) := Go l Z ({ frames := 0, cells := 0, slots := 0, locals := 0 } : Room) (⟨"com/example/vestry/vestry/model/SourceKind", "isElectiveDeferral", "()Z"⟩ : MethodName) prog_54_method_5_code 1 (some .boolean) n0 Q
theorem ef1 (m : MethodId) (o : Addr) : entryFrame m #[(.ref o)] 1 = mkF m 0 #[.val (.ref o)] [] := by first | (simp [entryFrame, mkF, argsToLocals, Value.category]; done) | rfl
set_option maxRecDepth 65536 in
set_option maxHeartbeats 40000000 in
theorem rm1 (l : Launch) (Z : State) (a0 : Array Value) (hw : ∀ d ∈ tables_1, d.before a0 Z = true) (o : Addr) (e_ELECTIVE : Addr) (e_ROTH : Addr) (h0 : Heap) (n0 : Nat) (S_ELECTIVE : Sta Z h0 "com/example/vestry/vestry/model/SourceKind" "ELECTIVE" "Lcom/example/vestry/vestry/model/SourceKind;" (.ref e_ELECTIVE)) (S_ROTH : Sta Z h0 "com/example/vestry/vestry/model/SourceKind" "ROTH" "Lcom/example/vestry/vestry/model/SourceKind;" (.ref e_ROTH)) :
    Con l Z ({ frames := 0, cells := 0, slots := 0, locals := 0 } : Room) (⟨"com/example/vestry/vestry/model/SourceKind", "isElectiveDeferral", "()Z"⟩ : MethodName) prog_54_method_5_code 1 (some .boolean) n0 #[(.ref o)] h0 (OwnW.Ret (some (.int (f1 o e_ELECTIVE e_ROTH))) h0) := by
  refine OwnW.Con.of (by first | decide +kernel | exact plainFor_of_name (by simp [plainName, overriddenIn])) (fun m => ef1 m o) ?_
  show GoB1 l Z n0 (OwnW.Ret (some (.int (f1 o e_ELECTIVE e_ROTH))) h0) h0 0 0 0 #[.val (.ref o)] []
  refine OwnW.aloadN (pc' := 1) d1_0 rfl (rfl) rfl ?_
  refine OwnW.getS (a0 := a0) (pc' := 4) d1_1 (host := "") (Or.inl (hw _ (List.mem_of_getElem? (i := 25) rfl))) Via.refl S_ELECTIVE rfl ?_
  by_cases ha4 : o = e_ELECTIVE
  ·
    refine OwnW.acmp (pc' := 14) (same := true) d1_4 rfl rfl (decide_eq_true (congrArg Value.ref ha4)) (by decide) (by decide) ?_
    refine OwnW.iconst (pc' := 15) (v := (1 : Int32)) d1_14 rfl rfl ?_
    refine OwnW.goto (pc' := 19) d1_15 (by decide) (by decide) ?_
    exact OwnW.retN (t := .boolean) d1_19 rfl (by simp) rfl (by decide) (by decide) (⟨by first | (simp only [f1, if_pos ha4]; done) | (simp only [f1, if_pos ha4]; rfl), rfl⟩)
  ·
    refine OwnW.acmp (pc' := 7) (same := false) d1_4 rfl rfl (decide_eq_false fun q => ha4 (Value.ref.inj q)) (by decide) (by decide) ?_
    refine OwnW.aloadN (pc' := 8) d1_7 rfl (rfl) rfl ?_
    refine OwnW.getS (a0 := a0) (pc' := 11) d1_8 (host := "") (Or.inl (hw _ (List.mem_of_getElem? (i := 26) rfl))) Via.refl S_ROTH rfl ?_
    by_cases ha11 : o = e_ROTH
    ·
      refine OwnW.acmp (pc' := 14) (same := true) d1_11 rfl rfl (decide_eq_true (congrArg Value.ref ha11)) (by decide) (by decide) ?_
      refine OwnW.iconst (pc' := 15) (v := (1 : Int32)) d1_14 rfl rfl ?_
      refine OwnW.goto (pc' := 19) d1_15 (by decide) (by decide) ?_
      exact OwnW.retN (t := .boolean) d1_19 rfl (by simp) rfl (by decide) (by decide) (⟨by first | (simp only [f1, if_neg ha4, if_pos ha11]; done) | (simp only [f1, if_neg ha4, if_pos ha11]; rfl), rfl⟩)
    ·
      refine OwnW.acmp (pc' := 18) (same := false) d1_11 rfl rfl (decide_eq_false fun q => ha11 (Value.ref.inj q)) (by decide) (by decide) ?_
      refine OwnW.iconst (pc' := 19) (v := (0 : Int32)) d1_18 rfl rfl ?_
      exact OwnW.retN (t := .boolean) d1_19 rfl (by simp) rfl (by decide) (by decide) (⟨by first | (simp only [f1, if_neg ha4, if_neg ha11]; done) | (simp only [f1, if_neg ha4, if_neg ha11]; rfl), rfl⟩)

theorem own_i {p0 i : Int32} (hi : i = (p0 &&& (7 : Int32))) : i = (0 : Int32) ∨ i = (1 : Int32) ∨ i = (2 : Int32) ∨ i = (3 : Int32) ∨ i = (4 : Int32) ∨ i = (5 : Int32) ∨ i = (6 : Int32) ∨ i = (7 : Int32) := by
  have e := c_mask p0 7 3 (by decide) (by decide)
  rw [← hi] at e
  have b : i.toInt = 0 ∨ i.toInt = 1 ∨ i.toInt = 2 ∨ i.toInt = 3 ∨ i.toInt = 4 ∨ i.toInt = 5 ∨ i.toInt = 6 ∨ i.toInt = 7 := by omega
  simpa [← Int32.toInt_inj] using b

abbrev GoB0 (l : Launch) (Z : State) (n0 : Nat) (Q : Option Value → Heap → Prop) := Go l Z room_1 x code maxLocals ret n0 Q
theorem ef0 (m : MethodId) (p0 : Int32) : entryFrame m #[(.int p0)] maxLocals = mkF m 0 #[.val (.int p0), .unset, .unset, .unset, .unset] [] := by first | (simp [entryFrame, mkF, argsToLocals, Value.category, maxLocals]; done) | rfl
set_option maxRecDepth 65536 in
set_option maxHeartbeats 400000000 in
theorem rm0 (l : Launch) (Z : State) (a0 : Array Value) (hw : ∀ d ∈ tables_1, d.before a0 Z = true) (p0 : Int32) (e_ELECTIVE : Addr) (e_ROTH : Addr) (e_AFTER_TAX : Addr) (e_EMPLOYER : Addr) (e_ROLLOVER : Addr) (e_TRANSFER : Addr) (e_OPENING : Addr) (e_MEMBER : Addr) (h0 : Heap) (n0 : Nat) (Z0 : n0 ≤ h0.size) (S_ELECTIVE : Sta Z h0 "com/example/vestry/vestry/model/SourceKind" "ELECTIVE" "Lcom/example/vestry/vestry/model/SourceKind;" (.ref e_ELECTIVE)) (E_ELECTIVE : Exa Z h0 e_ELECTIVE "com/example/vestry/vestry/model/SourceKind") (S_ROTH : Sta Z h0 "com/example/vestry/vestry/model/SourceKind" "ROTH" "Lcom/example/vestry/vestry/model/SourceKind;" (.ref e_ROTH)) (E_ROTH : Exa Z h0 e_ROTH "com/example/vestry/vestry/model/SourceKind") (S_AFTER_TAX : Sta Z h0 "com/example/vestry/vestry/model/SourceKind" "AFTER_TAX" "Lcom/example/vestry/vestry/model/SourceKind;" (.ref e_AFTER_TAX)) (E_AFTER_TAX : Exa Z h0 e_AFTER_TAX "com/example/vestry/vestry/model/SourceKind") (S_EMPLOYER : Sta Z h0 "com/example/vestry/vestry/model/SourceKind" "EMPLOYER" "Lcom/example/vestry/vestry/model/SourceKind;" (.ref e_EMPLOYER)) (E_EMPLOYER : Exa Z h0 e_EMPLOYER "com/example/vestry/vestry/model/SourceKind") (S_ROLLOVER : Sta Z h0 "com/example/vestry/vestry/model/SourceKind" "ROLLOVER" "Lcom/example/vestry/vestry/model/SourceKind;" (.ref e_ROLLOVER)) (E_ROLLOVER : Exa Z h0 e_ROLLOVER "com/example/vestry/vestry/model/SourceKind") (S_TRANSFER : Sta Z h0 "com/example/vestry/vestry/model/SourceKind" "TRANSFER" "Lcom/example/vestry/vestry/model/SourceKind;" (.ref e_TRANSFER)) (E_TRANSFER : Exa Z h0 e_TRANSFER "com/example/vestry/vestry/model/SourceKind") (S_OPENING : Sta Z h0 "com/example/vestry/vestry/model/SourceKind" "OPENING" "Lcom/example/vestry/vestry/model/SourceKind;" (.ref e_OPENING)) (E_OPENING : Exa Z h0 e_OPENING "com/example/vestry/vestry/model/SourceKind") (S_MEMBER : Sta Z h0 "com/example/vestry/vestry/model/SourceKind" "MEMBER" "Lcom/example/vestry/vestry/model/SourceKind;" (.ref e_MEMBER)) (E_MEMBER : Exa Z h0 e_MEMBER "com/example/vestry/vestry/model/SourceKind") (O_EMPLOYER_ordinal : Fld Z h0 e_EMPLOYER "java/lang/Enum" "ordinal" "I" (.int (3 : Int32))) (O_ELECTIVE_ordinal : Fld Z h0 e_ELECTIVE "java/lang/Enum" "ordinal" "I" (.int (0 : Int32))) (O_ROTH_ordinal : Fld Z h0 e_ROTH "java/lang/Enum" "ordinal" "I" (.int (1 : Int32))) (O_OPENING_ordinal : Fld Z h0 e_OPENING "java/lang/Enum" "ordinal" "I" (.int (6 : Int32))) (O_MEMBER_ordinal : Fld Z h0 e_MEMBER "java/lang/Enum" "ordinal" "I" (.int (7 : Int32))) (O_AFTER_TAX_ordinal : Fld Z h0 e_AFTER_TAX "java/lang/Enum" "ordinal" "I" (.int (2 : Int32))) (O_ROLLOVER_ordinal : Fld Z h0 e_ROLLOVER "java/lang/Enum" "ordinal" "I" (.int (4 : Int32))) (O_TRANSFER_ordinal : Fld Z h0 e_TRANSFER "java/lang/Enum" "ordinal" "I" (.int (5 : Int32))) :
    Con l Z room_1 x code maxLocals ret n0 #[(.int p0)] h0 OwnW.One1 := by
  refine OwnW.Con.of (by first | decide +kernel | exact plainFor_of_name (by simp [x, plainName, overriddenIn])) (fun m => ef0 m p0) ?_
  show GoB0 l Z n0 OwnW.One1 h0 0 0 0 #[.val (.int p0), .unset, .unset, .unset, .unset] []
  refine OwnW.bipush (pc' := 2) (v := (8 : Int32)) at_0 rfl rfl ?_
  refine OwnW.newR (a0 := a0) (pc' := 5) (cap := 8) (k' := 1) (n' := 8) at_2 (hw _ (List.mem_of_getElem? (i := 0) rfl)) (hw _ (List.mem_of_getElem? (i := 1) rfl)) (by decide) (by decide) (by decide) rfl rfl (by decide) (by decide) rfl ?_
  intro h1 kc1 ad1 g1 E1 A1 O1
  have ge_ad1 : n0 ≤ ad1 := Nat.le_trans Z0 (Nat.le_of_eq g1.symm)
  have X2 : Ext h0 h1 := OwnW.ext_trans (OwnW.ext_refl h0) E1
  have sz_ad1 : n0 ≤ h1.size := Nat.le_trans Z0 E1.1
  have V1 : Arv Z h1 ad1 kc1 (.object "com/example/vestry/vestry/model/SourceKind") (8 : Int32) [.null, .null, .null, .null, .null, .null, .null, .null] (.null) := (Arv.new A1 (by decide)).pad (pad_rep [] _ 8)
  refine OwnW.dup (pc' := 6) at_5 rfl rfl ?_
  refine OwnW.iconst (pc' := 7) (v := (0 : Int32)) at_6 rfl rfl ?_
  refine OwnW.getS (a0 := a0) (pc' := 10) at_7 (host := "") (Or.inl (hw _ (List.mem_of_getElem? (i := 2) rfl))) Via.refl (S_ELECTIVE.ext X2) rfl ?_
  obtain ⟨cl3, Ar3, qk3, Sz3, Mn3, Hv3, Gf3⟩ := id V1
  refine OwnW.stR (pc' := 11) at_10 Ar3 (inb_of Sz3 ⟨by decide, by decide⟩) rfl (Sto.ofV Ar3 qk3 O1 (Ins.self (E_ELECTIVE.ext X2))) ge_ad1 rfl ?_
  intro h3 W3
  have X4 : Ext h0 h3 := OwnW.ext_wr X2 W3 (Nat.le_trans (Nat.le_refl _) (Nat.le_of_eq g1.symm))
  have sz5 : n0 ≤ h3.size := (by rw [W3.size]; exact sz_ad1)
  have V3 : Arv Z h3 ad1 kc1 (.object "com/example/vestry/vestry/model/SourceKind") (8 : Int32) [(.ref e_ELECTIVE), .null, .null, .null, .null, .null, .null, .null] (.null) := Arv.set Ar3 qk3 Sz3 Mn3 Hv3 Gf3 rfl W3 0 rfl (Nat.le_of_ble_eq_true rfl)
  refine OwnW.dup (pc' := 12) at_11 rfl rfl ?_
  refine OwnW.iconst (pc' := 13) (v := (1 : Int32)) at_12 rfl rfl ?_
  refine OwnW.getS (a0 := a0) (pc' := 16) at_13 (host := "") (Or.inl (hw _ (List.mem_of_getElem? (i := 6) rfl))) Via.refl (S_ROTH.ext X4) rfl ?_
  obtain ⟨cl6, Ar6, qk6, Sz6, Mn6, Hv6, Gf6⟩ := id V3
  refine OwnW.stR (pc' := 17) at_16 Ar6 (inb_of Sz6 ⟨by decide, by decide⟩) rfl (Sto.ofV Ar6 qk6 O1 (Ins.self (E_ROTH.ext X4))) ge_ad1 rfl ?_
  intro h6 W6
  have X7 : Ext h0 h6 := OwnW.ext_wr X4 W6 (Nat.le_trans (Nat.le_refl _) (Nat.le_of_eq g1.symm))
  have sz8 : n0 ≤ h6.size := (by rw [W6.size]; exact sz5)
  have V6 : Arv Z h6 ad1 kc1 (.object "com/example/vestry/vestry/model/SourceKind") (8 : Int32) [(.ref e_ELECTIVE), (.ref e_ROTH), .null, .null, .null, .null, .null, .null] (.null) := Arv.set Ar6 qk6 Sz6 Mn6 Hv6 Gf6 rfl W6 1 rfl (Nat.le_of_ble_eq_true rfl)
  refine OwnW.dup (pc' := 18) at_17 rfl rfl ?_
  refine OwnW.iconst (pc' := 19) (v := (2 : Int32)) at_18 rfl rfl ?_
  refine OwnW.getS (a0 := a0) (pc' := 22) at_19 (host := "") (Or.inl (hw _ (List.mem_of_getElem? (i := 8) rfl))) Via.refl (S_AFTER_TAX.ext X7) rfl ?_
  obtain ⟨cl9, Ar9, qk9, Sz9, Mn9, Hv9, Gf9⟩ := id V6
  refine OwnW.stR (pc' := 23) at_22 Ar9 (inb_of Sz9 ⟨by decide, by decide⟩) rfl (Sto.ofV Ar9 qk9 O1 (Ins.self (E_AFTER_TAX.ext X7))) ge_ad1 rfl ?_
  intro h9 W9
  have X10 : Ext h0 h9 := OwnW.ext_wr X7 W9 (Nat.le_trans (Nat.le_refl _) (Nat.le_of_eq g1.symm))
  have sz11 : n0 ≤ h9.size := (by rw [W9.size]; exact sz8)
  have V9 : Arv Z h9 ad1 kc1 (.object "com/example/vestry/vestry/model/SourceKind") (8 : Int32) [(.ref e_ELECTIVE), (.ref e_ROTH), (.ref e_AFTER_TAX), .null, .null, .null, .null, .null] (.null) := Arv.set Ar9 qk9 Sz9 Mn9 Hv9 Gf9 rfl W9 2 rfl (Nat.le_of_ble_eq_true rfl)
  refine OwnW.dup (pc' := 24) at_23 rfl rfl ?_
  refine OwnW.iconst (pc' := 25) (v := (3 : Int32)) at_24 rfl rfl ?_
  refine OwnW.getS (a0 := a0) (pc' := 28) at_25 (host := "") (Or.inl (hw _ (List.mem_of_getElem? (i := 10) rfl))) Via.refl (S_EMPLOYER.ext X10) rfl ?_
  obtain ⟨cl12, Ar12, qk12, Sz12, Mn12, Hv12, Gf12⟩ := id V9
  refine OwnW.stR (pc' := 29) at_28 Ar12 (inb_of Sz12 ⟨by decide, by decide⟩) rfl (Sto.ofV Ar12 qk12 O1 (Ins.self (E_EMPLOYER.ext X10))) ge_ad1 rfl ?_
  intro h12 W12
  have X13 : Ext h0 h12 := OwnW.ext_wr X10 W12 (Nat.le_trans (Nat.le_refl _) (Nat.le_of_eq g1.symm))
  have sz14 : n0 ≤ h12.size := (by rw [W12.size]; exact sz11)
  have V12 : Arv Z h12 ad1 kc1 (.object "com/example/vestry/vestry/model/SourceKind") (8 : Int32) [(.ref e_ELECTIVE), (.ref e_ROTH), (.ref e_AFTER_TAX), (.ref e_EMPLOYER), .null, .null, .null, .null] (.null) := Arv.set Ar12 qk12 Sz12 Mn12 Hv12 Gf12 rfl W12 3 rfl (Nat.le_of_ble_eq_true rfl)
  refine OwnW.dup (pc' := 30) at_29 rfl rfl ?_
  refine OwnW.iconst (pc' := 31) (v := (4 : Int32)) at_30 rfl rfl ?_
  refine OwnW.getS (a0 := a0) (pc' := 34) at_31 (host := "") (Or.inl (hw _ (List.mem_of_getElem? (i := 12) rfl))) Via.refl (S_ROLLOVER.ext X13) rfl ?_
  obtain ⟨cl15, Ar15, qk15, Sz15, Mn15, Hv15, Gf15⟩ := id V12
  refine OwnW.stR (pc' := 35) at_34 Ar15 (inb_of Sz15 ⟨by decide, by decide⟩) rfl (Sto.ofV Ar15 qk15 O1 (Ins.self (E_ROLLOVER.ext X13))) ge_ad1 rfl ?_
  intro h15 W15
  have X16 : Ext h0 h15 := OwnW.ext_wr X13 W15 (Nat.le_trans (Nat.le_refl _) (Nat.le_of_eq g1.symm))
  have sz17 : n0 ≤ h15.size := (by rw [W15.size]; exact sz14)
  have V15 : Arv Z h15 ad1 kc1 (.object "com/example/vestry/vestry/model/SourceKind") (8 : Int32) [(.ref e_ELECTIVE), (.ref e_ROTH), (.ref e_AFTER_TAX), (.ref e_EMPLOYER), (.ref e_ROLLOVER), .null, .null, .null] (.null) := Arv.set Ar15 qk15 Sz15 Mn15 Hv15 Gf15 rfl W15 4 rfl (Nat.le_of_ble_eq_true rfl)
  refine OwnW.dup (pc' := 36) at_35 rfl rfl ?_
  refine OwnW.iconst (pc' := 37) (v := (5 : Int32)) at_36 rfl rfl ?_
  refine OwnW.getS (a0 := a0) (pc' := 40) at_37 (host := "") (Or.inl (hw _ (List.mem_of_getElem? (i := 14) rfl))) Via.refl (S_TRANSFER.ext X16) rfl ?_
  obtain ⟨cl18, Ar18, qk18, Sz18, Mn18, Hv18, Gf18⟩ := id V15
  refine OwnW.stR (pc' := 41) at_40 Ar18 (inb_of Sz18 ⟨by decide, by decide⟩) rfl (Sto.ofV Ar18 qk18 O1 (Ins.self (E_TRANSFER.ext X16))) ge_ad1 rfl ?_
  intro h18 W18
  have X19 : Ext h0 h18 := OwnW.ext_wr X16 W18 (Nat.le_trans (Nat.le_refl _) (Nat.le_of_eq g1.symm))
  have sz20 : n0 ≤ h18.size := (by rw [W18.size]; exact sz17)
  have V18 : Arv Z h18 ad1 kc1 (.object "com/example/vestry/vestry/model/SourceKind") (8 : Int32) [(.ref e_ELECTIVE), (.ref e_ROTH), (.ref e_AFTER_TAX), (.ref e_EMPLOYER), (.ref e_ROLLOVER), (.ref e_TRANSFER), .null, .null] (.null) := Arv.set Ar18 qk18 Sz18 Mn18 Hv18 Gf18 rfl W18 5 rfl (Nat.le_of_ble_eq_true rfl)
  refine OwnW.dup (pc' := 42) at_41 rfl rfl ?_
  refine OwnW.bipush (pc' := 44) (v := (6 : Int32)) at_42 rfl rfl ?_
  refine OwnW.getS (a0 := a0) (pc' := 47) at_44 (host := "") (Or.inl (hw _ (List.mem_of_getElem? (i := 16) rfl))) Via.refl (S_OPENING.ext X19) rfl ?_
  obtain ⟨cl21, Ar21, qk21, Sz21, Mn21, Hv21, Gf21⟩ := id V18
  refine OwnW.stR (pc' := 48) at_47 Ar21 (inb_of Sz21 ⟨by decide, by decide⟩) rfl (Sto.ofV Ar21 qk21 O1 (Ins.self (E_OPENING.ext X19))) ge_ad1 rfl ?_
  intro h21 W21
  have X22 : Ext h0 h21 := OwnW.ext_wr X19 W21 (Nat.le_trans (Nat.le_refl _) (Nat.le_of_eq g1.symm))
  have sz23 : n0 ≤ h21.size := (by rw [W21.size]; exact sz20)
  have V21 : Arv Z h21 ad1 kc1 (.object "com/example/vestry/vestry/model/SourceKind") (8 : Int32) [(.ref e_ELECTIVE), (.ref e_ROTH), (.ref e_AFTER_TAX), (.ref e_EMPLOYER), (.ref e_ROLLOVER), (.ref e_TRANSFER), (.ref e_OPENING), .null] (.null) := Arv.set Ar21 qk21 Sz21 Mn21 Hv21 Gf21 rfl W21 6 rfl (Nat.le_of_ble_eq_true rfl)
  refine OwnW.dup (pc' := 49) at_48 rfl rfl ?_
  refine OwnW.bipush (pc' := 51) (v := (7 : Int32)) at_49 rfl rfl ?_
  refine OwnW.getS (a0 := a0) (pc' := 54) at_51 (host := "") (Or.inl (hw _ (List.mem_of_getElem? (i := 18) rfl))) Via.refl (S_MEMBER.ext X22) rfl ?_
  obtain ⟨cl24, Ar24, qk24, Sz24, Mn24, Hv24, Gf24⟩ := id V21
  refine OwnW.stR (pc' := 55) at_54 Ar24 (inb_of Sz24 ⟨by decide, by decide⟩) rfl (Sto.ofV Ar24 qk24 O1 (Ins.self (E_MEMBER.ext X22))) ge_ad1 rfl ?_
  intro h24 W24
  have X25 : Ext h0 h24 := OwnW.ext_wr X22 W24 (Nat.le_trans (Nat.le_refl _) (Nat.le_of_eq g1.symm))
  have sz26 : n0 ≤ h24.size := (by rw [W24.size]; exact sz23)
  have V24 : Arv Z h24 ad1 kc1 (.object "com/example/vestry/vestry/model/SourceKind") (8 : Int32) [(.ref e_ELECTIVE), (.ref e_ROTH), (.ref e_AFTER_TAX), (.ref e_EMPLOYER), (.ref e_ROLLOVER), (.ref e_TRANSFER), (.ref e_OPENING), (.ref e_MEMBER)] (.null) := Arv.set Ar24 qk24 Sz24 Mn24 Hv24 Gf24 rfl W24 7 rfl (Nat.le_of_ble_eq_true rfl)
  refine OwnW.astoreN (pc' := 56) (L' := #[.val (.int p0), .val (.ref ad1), .unset, .unset, .unset]) at_55 (rfl) rfl rfl ?_
  refine OwnW.iloadN (pc' := 57) at_56 rfl rfl ?_
  refine OwnW.bipush (pc' := 59) (v := (7 : Int32)) at_57 rfl rfl ?_
  refine OwnW.iand (pc' := 60) at_59 rfl ?_
  obtain ⟨i, hi⟩ : ∃ z, z = (p0 &&& (7 : Int32)) := ⟨_, rfl⟩
  rw [← hi]
  show GoB0 l Z n0 OwnW.One1 h24 1 8 60 #[.val (.int p0), .val (.ref ad1), .unset, .unset, .unset] [(.int i)]
  refine OwnW.istoreN (pc' := 61) (L' := #[.val (.int p0), .val (.ref ad1), .val (.int i), .unset, .unset]) at_60 rfl rfl ?_
  refine OwnW.aloadN (pc' := 62) at_61 rfl (rfl) rfl ?_
  refine OwnW.iloadN (pc' := 63) at_62 rfl rfl ?_
  rcases (own_i hi) with rfl | rfl | rfl | rfl | rfl | rfl | rfl | rfl
  ·
    show GoB0 l Z n0 OwnW.One1 h24 1 8 63 #[.val (.int p0), .val (.ref ad1), .val (.int (0 : Int32)), .unset, .unset] [(.int (0 : Int32)), (.ref ad1)]
    obtain ⟨cl27, Ar27, qk27, Sz27, Mn27, Hv27, Gf27⟩ := id V24
    refine OwnW.aaload (pc' := 64) (v := (.ref e_ELECTIVE)) at_63 Ar27 rfl (inb_of Sz27 ⟨by decide, by decide⟩) (Hv27.at (inb_of Sz27 ⟨by decide, by decide⟩) rfl) rfl ?_
    refine OwnW.astoreN (pc' := 65) (L' := #[.val (.int p0), .val (.ref ad1), .val (.int (0 : Int32)), .val (.ref e_ELECTIVE), .unset]) at_64 (rfl) rfl rfl ?_
    refine OwnW.iconst (pc' := 66) (v := (0 : Int32)) at_65 rfl rfl ?_
    refine OwnW.istore (pc' := 68) (L' := #[.val (.int p0), .val (.ref ad1), .val (.int (0 : Int32)), .val (.ref e_ELECTIVE), .val (.int (0 : Int32))]) at_66 rfl rfl ?_
    refine OwnW.iloadN (pc' := 69) at_68 rfl rfl ?_
    refine OwnW.ifcN (pc' := 72) at_69 ((if0 _ _).trans (teq (by decide)).2) rfl ?_
    refine OwnW.iconst (pc' := 73) (v := (1 : Int32)) at_72 rfl rfl ?_
    refine OwnW.istore (pc' := 75) (L' := #[.val (.int p0), .val (.ref ad1), .val (.int (0 : Int32)), .val (.ref e_ELECTIVE), .val (.int (1 : Int32))]) at_73 rfl rfl ?_
    refine OwnW.goto (pc' := 86) at_75 (by decide) (by decide) ?_
    refine OwnW.aloadN (pc' := 87) at_86 rfl (rfl) rfl ?_
    refine OwnW.callV0 (a0 := a0) (pc' := 90) (W := 0) (k' := 1) (n' := 8) (argsL := []) (rest := []) (St' := [(.int (f1 e_ELECTIVE e_ELECTIVE e_ROTH))]) at_87 (hw _ (List.mem_of_getElem? (i := 20) rfl)) (hw _ (List.mem_of_getElem? (i := 21) rfl)) (hw _ (List.mem_of_getElem? (i := 23) rfl)) (hw _ (List.mem_of_getElem? (i := 22) rfl)) (hw _ (List.mem_of_getElem? (i := 3) rfl)) (hw _ (List.mem_of_getElem? (i := 24) rfl)) (by decide) (E_ELECTIVE.ext X25) (rm1 l Z a0 hw e_ELECTIVE e_ELECTIVE e_ROTH h24 n0 (S_ELECTIVE.ext X25) (S_ROTH.ext X25)) (by decide) (by decide) rfl rfl (by decide) (by decide) rfl pd_2829Z rfl rfl rfl (Nat.le_of_ble_eq_true rfl) rfl rfl ?_
    rw [show (f1 e_ELECTIVE e_ELECTIVE e_ROTH) = (1 : Int32) from if_pos rfl]
    show GoB0 l Z n0 OwnW.One1 h24 1 8 90 #[.val (.int p0), .val (.ref ad1), .val (.int (0 : Int32)), .val (.ref e_ELECTIVE), .val (.int (1 : Int32))] [(.int (1 : Int32))]
    refine OwnW.iload (pc' := 92) at_90 rfl rfl ?_
    refine OwnW.icmpN (pc' := 95) at_92 (teq (by decide)).2 rfl ?_
    refine OwnW.iconst (pc' := 96) (v := (1 : Int32)) at_95 rfl rfl ?_
    refine OwnW.goto (pc' := 100) at_96 (by decide) (by decide) ?_
    exact OwnW.retN (t := .boolean) at_100 rfl (by simp) rfl (by decide) (by decide) (rfl)
  ·
    show GoB0 l Z n0 OwnW.One1 h24 1 8 63 #[.val (.int p0), .val (.ref ad1), .val (.int (1 : Int32)), .unset, .unset] [(.int (1 : Int32)), (.ref ad1)]
    obtain ⟨cl28, Ar28, qk28, Sz28, Mn28, Hv28, Gf28⟩ := id V24
    refine OwnW.aaload (pc' := 64) (v := (.ref e_ROTH)) at_63 Ar28 rfl (inb_of Sz28 ⟨by decide, by decide⟩) (Hv28.at (inb_of Sz28 ⟨by decide, by decide⟩) rfl) rfl ?_
    refine OwnW.astoreN (pc' := 65) (L' := #[.val (.int p0), .val (.ref ad1), .val (.int (1 : Int32)), .val (.ref e_ROTH), .unset]) at_64 (rfl) rfl rfl ?_
    refine OwnW.iconst (pc' := 66) (v := (0 : Int32)) at_65 rfl rfl ?_
    refine OwnW.istore (pc' := 68) (L' := #[.val (.int p0), .val (.ref ad1), .val (.int (1 : Int32)), .val (.ref e_ROTH), .val (.int (0 : Int32))]) at_66 rfl rfl ?_
    refine OwnW.iloadN (pc' := 69) at_68 rfl rfl ?_
    refine OwnW.ifcY (pc' := 78) at_69 ((if0 _ _).trans (feq (by decide)).2) (by decide) (by decide) ?_
    refine OwnW.iloadN (pc' := 79) at_78 rfl rfl ?_
    refine OwnW.iconst (pc' := 80) (v := (1 : Int32)) at_79 rfl rfl ?_
    refine OwnW.icmpN (pc' := 83) at_80 (teq (by decide)).2 rfl ?_
    refine OwnW.iconst (pc' := 84) (v := (1 : Int32)) at_83 rfl rfl ?_
    refine OwnW.istore (pc' := 86) (L' := #[.val (.int p0), .val (.ref ad1), .val (.int (1 : Int32)), .val (.ref e_ROTH), .val (.int (1 : Int32))]) at_84 rfl rfl ?_
    refine OwnW.aloadN (pc' := 87) at_86 rfl (rfl) rfl ?_
    refine OwnW.callV0 (a0 := a0) (pc' := 90) (W := 0) (k' := 1) (n' := 8) (argsL := []) (rest := []) (St' := [(.int (f1 e_ROTH e_ELECTIVE e_ROTH))]) at_87 (hw _ (List.mem_of_getElem? (i := 20) rfl)) (hw _ (List.mem_of_getElem? (i := 21) rfl)) (hw _ (List.mem_of_getElem? (i := 23) rfl)) (hw _ (List.mem_of_getElem? (i := 22) rfl)) (hw _ (List.mem_of_getElem? (i := 3) rfl)) (hw _ (List.mem_of_getElem? (i := 24) rfl)) (by decide) (E_ROTH.ext X25) (rm1 l Z a0 hw e_ROTH e_ELECTIVE e_ROTH h24 n0 (S_ELECTIVE.ext X25) (S_ROTH.ext X25)) (by decide) (by decide) rfl rfl (by decide) (by decide) rfl pd_2829Z rfl rfl rfl (Nat.le_of_ble_eq_true rfl) rfl rfl ?_
    rw [show (f1 e_ROTH e_ELECTIVE e_ROTH) = (1 : Int32) from (if_neg (Ne.symm (O_ELECTIVE_ordinal.ne O_ROTH_ordinal (by decide)))).trans (if_pos rfl)]
    show GoB0 l Z n0 OwnW.One1 h24 1 8 90 #[.val (.int p0), .val (.ref ad1), .val (.int (1 : Int32)), .val (.ref e_ROTH), .val (.int (1 : Int32))] [(.int (1 : Int32))]
    refine OwnW.iload (pc' := 92) at_90 rfl rfl ?_
    refine OwnW.icmpN (pc' := 95) at_92 (teq (by decide)).2 rfl ?_
    refine OwnW.iconst (pc' := 96) (v := (1 : Int32)) at_95 rfl rfl ?_
    refine OwnW.goto (pc' := 100) at_96 (by decide) (by decide) ?_
    exact OwnW.retN (t := .boolean) at_100 rfl (by simp) rfl (by decide) (by decide) (rfl)
  ·
    show GoB0 l Z n0 OwnW.One1 h24 1 8 63 #[.val (.int p0), .val (.ref ad1), .val (.int (2 : Int32)), .unset, .unset] [(.int (2 : Int32)), (.ref ad1)]
    obtain ⟨cl29, Ar29, qk29, Sz29, Mn29, Hv29, Gf29⟩ := id V24
    refine OwnW.aaload (pc' := 64) (v := (.ref e_AFTER_TAX)) at_63 Ar29 rfl (inb_of Sz29 ⟨by decide, by decide⟩) (Hv29.at (inb_of Sz29 ⟨by decide, by decide⟩) rfl) rfl ?_
    refine OwnW.astoreN (pc' := 65) (L' := #[.val (.int p0), .val (.ref ad1), .val (.int (2 : Int32)), .val (.ref e_AFTER_TAX), .unset]) at_64 (rfl) rfl rfl ?_
    refine OwnW.iconst (pc' := 66) (v := (0 : Int32)) at_65 rfl rfl ?_
    refine OwnW.istore (pc' := 68) (L' := #[.val (.int p0), .val (.ref ad1), .val (.int (2 : Int32)), .val (.ref e_AFTER_TAX), .val (.int (0 : Int32))]) at_66 rfl rfl ?_
    refine OwnW.iloadN (pc' := 69) at_68 rfl rfl ?_
    refine OwnW.ifcY (pc' := 78) at_69 ((if0 _ _).trans (feq (by decide)).2) (by decide) (by decide) ?_
    refine OwnW.iloadN (pc' := 79) at_78 rfl rfl ?_
    refine OwnW.iconst (pc' := 80) (v := (1 : Int32)) at_79 rfl rfl ?_
    refine OwnW.icmpY (pc' := 86) at_80 (feq (by decide)).2 (by decide) (by decide) ?_
    refine OwnW.aloadN (pc' := 87) at_86 rfl (rfl) rfl ?_
    refine OwnW.callV0 (a0 := a0) (pc' := 90) (W := 0) (k' := 1) (n' := 8) (argsL := []) (rest := []) (St' := [(.int (f1 e_AFTER_TAX e_ELECTIVE e_ROTH))]) at_87 (hw _ (List.mem_of_getElem? (i := 20) rfl)) (hw _ (List.mem_of_getElem? (i := 21) rfl)) (hw _ (List.mem_of_getElem? (i := 23) rfl)) (hw _ (List.mem_of_getElem? (i := 22) rfl)) (hw _ (List.mem_of_getElem? (i := 3) rfl)) (hw _ (List.mem_of_getElem? (i := 24) rfl)) (by decide) (E_AFTER_TAX.ext X25) (rm1 l Z a0 hw e_AFTER_TAX e_ELECTIVE e_ROTH h24 n0 (S_ELECTIVE.ext X25) (S_ROTH.ext X25)) (by decide) (by decide) rfl rfl (by decide) (by decide) rfl pd_2829Z rfl rfl rfl (Nat.le_of_ble_eq_true rfl) rfl rfl ?_
    rw [show (f1 e_AFTER_TAX e_ELECTIVE e_ROTH) = (0 : Int32) from (if_neg (Ne.symm (O_ELECTIVE_ordinal.ne O_AFTER_TAX_ordinal (by decide)))).trans (if_neg (Ne.symm (O_ROTH_ordinal.ne O_AFTER_TAX_ordinal (by decide))))]
    show GoB0 l Z n0 OwnW.One1 h24 1 8 90 #[.val (.int p0), .val (.ref ad1), .val (.int (2 : Int32)), .val (.ref e_AFTER_TAX), .val (.int (0 : Int32))] [(.int (0 : Int32))]
    refine OwnW.iload (pc' := 92) at_90 rfl rfl ?_
    refine OwnW.icmpN (pc' := 95) at_92 (teq (by decide)).2 rfl ?_
    refine OwnW.iconst (pc' := 96) (v := (1 : Int32)) at_95 rfl rfl ?_
    refine OwnW.goto (pc' := 100) at_96 (by decide) (by decide) ?_
    exact OwnW.retN (t := .boolean) at_100 rfl (by simp) rfl (by decide) (by decide) (rfl)
  ·
    show GoB0 l Z n0 OwnW.One1 h24 1 8 63 #[.val (.int p0), .val (.ref ad1), .val (.int (3 : Int32)), .unset, .unset] [(.int (3 : Int32)), (.ref ad1)]
    obtain ⟨cl30, Ar30, qk30, Sz30, Mn30, Hv30, Gf30⟩ := id V24
    refine OwnW.aaload (pc' := 64) (v := (.ref e_EMPLOYER)) at_63 Ar30 rfl (inb_of Sz30 ⟨by decide, by decide⟩) (Hv30.at (inb_of Sz30 ⟨by decide, by decide⟩) rfl) rfl ?_
    refine OwnW.astoreN (pc' := 65) (L' := #[.val (.int p0), .val (.ref ad1), .val (.int (3 : Int32)), .val (.ref e_EMPLOYER), .unset]) at_64 (rfl) rfl rfl ?_
    refine OwnW.iconst (pc' := 66) (v := (0 : Int32)) at_65 rfl rfl ?_
    refine OwnW.istore (pc' := 68) (L' := #[.val (.int p0), .val (.ref ad1), .val (.int (3 : Int32)), .val (.ref e_EMPLOYER), .val (.int (0 : Int32))]) at_66 rfl rfl ?_
    refine OwnW.iloadN (pc' := 69) at_68 rfl rfl ?_
    refine OwnW.ifcY (pc' := 78) at_69 ((if0 _ _).trans (feq (by decide)).2) (by decide) (by decide) ?_
    refine OwnW.iloadN (pc' := 79) at_78 rfl rfl ?_
    refine OwnW.iconst (pc' := 80) (v := (1 : Int32)) at_79 rfl rfl ?_
    refine OwnW.icmpY (pc' := 86) at_80 (feq (by decide)).2 (by decide) (by decide) ?_
    refine OwnW.aloadN (pc' := 87) at_86 rfl (rfl) rfl ?_
    refine OwnW.callV0 (a0 := a0) (pc' := 90) (W := 0) (k' := 1) (n' := 8) (argsL := []) (rest := []) (St' := [(.int (f1 e_EMPLOYER e_ELECTIVE e_ROTH))]) at_87 (hw _ (List.mem_of_getElem? (i := 20) rfl)) (hw _ (List.mem_of_getElem? (i := 21) rfl)) (hw _ (List.mem_of_getElem? (i := 23) rfl)) (hw _ (List.mem_of_getElem? (i := 22) rfl)) (hw _ (List.mem_of_getElem? (i := 3) rfl)) (hw _ (List.mem_of_getElem? (i := 24) rfl)) (by decide) (E_EMPLOYER.ext X25) (rm1 l Z a0 hw e_EMPLOYER e_ELECTIVE e_ROTH h24 n0 (S_ELECTIVE.ext X25) (S_ROTH.ext X25)) (by decide) (by decide) rfl rfl (by decide) (by decide) rfl pd_2829Z rfl rfl rfl (Nat.le_of_ble_eq_true rfl) rfl rfl ?_
    rw [show (f1 e_EMPLOYER e_ELECTIVE e_ROTH) = (0 : Int32) from (if_neg (O_EMPLOYER_ordinal.ne O_ELECTIVE_ordinal (by decide))).trans (if_neg (O_EMPLOYER_ordinal.ne O_ROTH_ordinal (by decide)))]
    show GoB0 l Z n0 OwnW.One1 h24 1 8 90 #[.val (.int p0), .val (.ref ad1), .val (.int (3 : Int32)), .val (.ref e_EMPLOYER), .val (.int (0 : Int32))] [(.int (0 : Int32))]
    refine OwnW.iload (pc' := 92) at_90 rfl rfl ?_
    refine OwnW.icmpN (pc' := 95) at_92 (teq (by decide)).2 rfl ?_
    refine OwnW.iconst (pc' := 96) (v := (1 : Int32)) at_95 rfl rfl ?_
    refine OwnW.goto (pc' := 100) at_96 (by decide) (by decide) ?_
    exact OwnW.retN (t := .boolean) at_100 rfl (by simp) rfl (by decide) (by decide) (rfl)
  ·
    show GoB0 l Z n0 OwnW.One1 h24 1 8 63 #[.val (.int p0), .val (.ref ad1), .val (.int (4 : Int32)), .unset, .unset] [(.int (4 : Int32)), (.ref ad1)]
    obtain ⟨cl31, Ar31, qk31, Sz31, Mn31, Hv31, Gf31⟩ := id V24
    refine OwnW.aaload (pc' := 64) (v := (.ref e_ROLLOVER)) at_63 Ar31 rfl (inb_of Sz31 ⟨by decide, by decide⟩) (Hv31.at (inb_of Sz31 ⟨by decide, by decide⟩) rfl) rfl ?_
    refine OwnW.astoreN (pc' := 65) (L' := #[.val (.int p0), .val (.ref ad1), .val (.int (4 : Int32)), .val (.ref e_ROLLOVER), .unset]) at_64 (rfl) rfl rfl ?_
    refine OwnW.iconst (pc' := 66) (v := (0 : Int32)) at_65 rfl rfl ?_
    refine OwnW.istore (pc' := 68) (L' := #[.val (.int p0), .val (.ref ad1), .val (.int (4 : Int32)), .val (.ref e_ROLLOVER), .val (.int (0 : Int32))]) at_66 rfl rfl ?_
    refine OwnW.iloadN (pc' := 69) at_68 rfl rfl ?_
    refine OwnW.ifcY (pc' := 78) at_69 ((if0 _ _).trans (feq (by decide)).2) (by decide) (by decide) ?_
    refine OwnW.iloadN (pc' := 79) at_78 rfl rfl ?_
    refine OwnW.iconst (pc' := 80) (v := (1 : Int32)) at_79 rfl rfl ?_
    refine OwnW.icmpY (pc' := 86) at_80 (feq (by decide)).2 (by decide) (by decide) ?_
    refine OwnW.aloadN (pc' := 87) at_86 rfl (rfl) rfl ?_
    refine OwnW.callV0 (a0 := a0) (pc' := 90) (W := 0) (k' := 1) (n' := 8) (argsL := []) (rest := []) (St' := [(.int (f1 e_ROLLOVER e_ELECTIVE e_ROTH))]) at_87 (hw _ (List.mem_of_getElem? (i := 20) rfl)) (hw _ (List.mem_of_getElem? (i := 21) rfl)) (hw _ (List.mem_of_getElem? (i := 23) rfl)) (hw _ (List.mem_of_getElem? (i := 22) rfl)) (hw _ (List.mem_of_getElem? (i := 3) rfl)) (hw _ (List.mem_of_getElem? (i := 24) rfl)) (by decide) (E_ROLLOVER.ext X25) (rm1 l Z a0 hw e_ROLLOVER e_ELECTIVE e_ROTH h24 n0 (S_ELECTIVE.ext X25) (S_ROTH.ext X25)) (by decide) (by decide) rfl rfl (by decide) (by decide) rfl pd_2829Z rfl rfl rfl (Nat.le_of_ble_eq_true rfl) rfl rfl ?_
    rw [show (f1 e_ROLLOVER e_ELECTIVE e_ROTH) = (0 : Int32) from (if_neg (Ne.symm (O_ELECTIVE_ordinal.ne O_ROLLOVER_ordinal (by decide)))).trans (if_neg (Ne.symm (O_ROTH_ordinal.ne O_ROLLOVER_ordinal (by decide))))]
    show GoB0 l Z n0 OwnW.One1 h24 1 8 90 #[.val (.int p0), .val (.ref ad1), .val (.int (4 : Int32)), .val (.ref e_ROLLOVER), .val (.int (0 : Int32))] [(.int (0 : Int32))]
    refine OwnW.iload (pc' := 92) at_90 rfl rfl ?_
    refine OwnW.icmpN (pc' := 95) at_92 (teq (by decide)).2 rfl ?_
    refine OwnW.iconst (pc' := 96) (v := (1 : Int32)) at_95 rfl rfl ?_
    refine OwnW.goto (pc' := 100) at_96 (by decide) (by decide) ?_
    exact OwnW.retN (t := .boolean) at_100 rfl (by simp) rfl (by decide) (by decide) (rfl)
  ·
    show GoB0 l Z n0 OwnW.One1 h24 1 8 63 #[.val (.int p0), .val (.ref ad1), .val (.int (5 : Int32)), .unset, .unset] [(.int (5 : Int32)), (.ref ad1)]
    obtain ⟨cl32, Ar32, qk32, Sz32, Mn32, Hv32, Gf32⟩ := id V24
    refine OwnW.aaload (pc' := 64) (v := (.ref e_TRANSFER)) at_63 Ar32 rfl (inb_of Sz32 ⟨by decide, by decide⟩) (Hv32.at (inb_of Sz32 ⟨by decide, by decide⟩) rfl) rfl ?_
    refine OwnW.astoreN (pc' := 65) (L' := #[.val (.int p0), .val (.ref ad1), .val (.int (5 : Int32)), .val (.ref e_TRANSFER), .unset]) at_64 (rfl) rfl rfl ?_
    refine OwnW.iconst (pc' := 66) (v := (0 : Int32)) at_65 rfl rfl ?_
    refine OwnW.istore (pc' := 68) (L' := #[.val (.int p0), .val (.ref ad1), .val (.int (5 : Int32)), .val (.ref e_TRANSFER), .val (.int (0 : Int32))]) at_66 rfl rfl ?_
    refine OwnW.iloadN (pc' := 69) at_68 rfl rfl ?_
    refine OwnW.ifcY (pc' := 78) at_69 ((if0 _ _).trans (feq (by decide)).2) (by decide) (by decide) ?_
    refine OwnW.iloadN (pc' := 79) at_78 rfl rfl ?_
    refine OwnW.iconst (pc' := 80) (v := (1 : Int32)) at_79 rfl rfl ?_
    refine OwnW.icmpY (pc' := 86) at_80 (feq (by decide)).2 (by decide) (by decide) ?_
    refine OwnW.aloadN (pc' := 87) at_86 rfl (rfl) rfl ?_
    refine OwnW.callV0 (a0 := a0) (pc' := 90) (W := 0) (k' := 1) (n' := 8) (argsL := []) (rest := []) (St' := [(.int (f1 e_TRANSFER e_ELECTIVE e_ROTH))]) at_87 (hw _ (List.mem_of_getElem? (i := 20) rfl)) (hw _ (List.mem_of_getElem? (i := 21) rfl)) (hw _ (List.mem_of_getElem? (i := 23) rfl)) (hw _ (List.mem_of_getElem? (i := 22) rfl)) (hw _ (List.mem_of_getElem? (i := 3) rfl)) (hw _ (List.mem_of_getElem? (i := 24) rfl)) (by decide) (E_TRANSFER.ext X25) (rm1 l Z a0 hw e_TRANSFER e_ELECTIVE e_ROTH h24 n0 (S_ELECTIVE.ext X25) (S_ROTH.ext X25)) (by decide) (by decide) rfl rfl (by decide) (by decide) rfl pd_2829Z rfl rfl rfl (Nat.le_of_ble_eq_true rfl) rfl rfl ?_
    rw [show (f1 e_TRANSFER e_ELECTIVE e_ROTH) = (0 : Int32) from (if_neg (Ne.symm (O_ELECTIVE_ordinal.ne O_TRANSFER_ordinal (by decide)))).trans (if_neg (Ne.symm (O_ROTH_ordinal.ne O_TRANSFER_ordinal (by decide))))]
    show GoB0 l Z n0 OwnW.One1 h24 1 8 90 #[.val (.int p0), .val (.ref ad1), .val (.int (5 : Int32)), .val (.ref e_TRANSFER), .val (.int (0 : Int32))] [(.int (0 : Int32))]
    refine OwnW.iload (pc' := 92) at_90 rfl rfl ?_
    refine OwnW.icmpN (pc' := 95) at_92 (teq (by decide)).2 rfl ?_
    refine OwnW.iconst (pc' := 96) (v := (1 : Int32)) at_95 rfl rfl ?_
    refine OwnW.goto (pc' := 100) at_96 (by decide) (by decide) ?_
    exact OwnW.retN (t := .boolean) at_100 rfl (by simp) rfl (by decide) (by decide) (rfl)
  ·
    show GoB0 l Z n0 OwnW.One1 h24 1 8 63 #[.val (.int p0), .val (.ref ad1), .val (.int (6 : Int32)), .unset, .unset] [(.int (6 : Int32)), (.ref ad1)]
    obtain ⟨cl33, Ar33, qk33, Sz33, Mn33, Hv33, Gf33⟩ := id V24
    refine OwnW.aaload (pc' := 64) (v := (.ref e_OPENING)) at_63 Ar33 rfl (inb_of Sz33 ⟨by decide, by decide⟩) (Hv33.at (inb_of Sz33 ⟨by decide, by decide⟩) rfl) rfl ?_
    refine OwnW.astoreN (pc' := 65) (L' := #[.val (.int p0), .val (.ref ad1), .val (.int (6 : Int32)), .val (.ref e_OPENING), .unset]) at_64 (rfl) rfl rfl ?_
    refine OwnW.iconst (pc' := 66) (v := (0 : Int32)) at_65 rfl rfl ?_
    refine OwnW.istore (pc' := 68) (L' := #[.val (.int p0), .val (.ref ad1), .val (.int (6 : Int32)), .val (.ref e_OPENING), .val (.int (0 : Int32))]) at_66 rfl rfl ?_
    refine OwnW.iloadN (pc' := 69) at_68 rfl rfl ?_
    refine OwnW.ifcY (pc' := 78) at_69 ((if0 _ _).trans (feq (by decide)).2) (by decide) (by decide) ?_
    refine OwnW.iloadN (pc' := 79) at_78 rfl rfl ?_
    refine OwnW.iconst (pc' := 80) (v := (1 : Int32)) at_79 rfl rfl ?_
    refine OwnW.icmpY (pc' := 86) at_80 (feq (by decide)).2 (by decide) (by decide) ?_
    refine OwnW.aloadN (pc' := 87) at_86 rfl (rfl) rfl ?_
    refine OwnW.callV0 (a0 := a0) (pc' := 90) (W := 0) (k' := 1) (n' := 8) (argsL := []) (rest := []) (St' := [(.int (f1 e_OPENING e_ELECTIVE e_ROTH))]) at_87 (hw _ (List.mem_of_getElem? (i := 20) rfl)) (hw _ (List.mem_of_getElem? (i := 21) rfl)) (hw _ (List.mem_of_getElem? (i := 23) rfl)) (hw _ (List.mem_of_getElem? (i := 22) rfl)) (hw _ (List.mem_of_getElem? (i := 3) rfl)) (hw _ (List.mem_of_getElem? (i := 24) rfl)) (by decide) (E_OPENING.ext X25) (rm1 l Z a0 hw e_OPENING e_ELECTIVE e_ROTH h24 n0 (S_ELECTIVE.ext X25) (S_ROTH.ext X25)) (by decide) (by decide) rfl rfl (by decide) (by decide) rfl pd_2829Z rfl rfl rfl (Nat.le_of_ble_eq_true rfl) rfl rfl ?_
    rw [show (f1 e_OPENING e_ELECTIVE e_ROTH) = (0 : Int32) from (if_neg (Ne.symm (O_ELECTIVE_ordinal.ne O_OPENING_ordinal (by decide)))).trans (if_neg (Ne.symm (O_ROTH_ordinal.ne O_OPENING_ordinal (by decide))))]
    show GoB0 l Z n0 OwnW.One1 h24 1 8 90 #[.val (.int p0), .val (.ref ad1), .val (.int (6 : Int32)), .val (.ref e_OPENING), .val (.int (0 : Int32))] [(.int (0 : Int32))]
    refine OwnW.iload (pc' := 92) at_90 rfl rfl ?_
    refine OwnW.icmpN (pc' := 95) at_92 (teq (by decide)).2 rfl ?_
    refine OwnW.iconst (pc' := 96) (v := (1 : Int32)) at_95 rfl rfl ?_
    refine OwnW.goto (pc' := 100) at_96 (by decide) (by decide) ?_
    exact OwnW.retN (t := .boolean) at_100 rfl (by simp) rfl (by decide) (by decide) (rfl)
  ·
    show GoB0 l Z n0 OwnW.One1 h24 1 8 63 #[.val (.int p0), .val (.ref ad1), .val (.int (7 : Int32)), .unset, .unset] [(.int (7 : Int32)), (.ref ad1)]
    obtain ⟨cl34, Ar34, qk34, Sz34, Mn34, Hv34, Gf34⟩ := id V24
    refine OwnW.aaload (pc' := 64) (v := (.ref e_MEMBER)) at_63 Ar34 rfl (inb_of Sz34 ⟨by decide, by decide⟩) (Hv34.at (inb_of Sz34 ⟨by decide, by decide⟩) rfl) rfl ?_
    refine OwnW.astoreN (pc' := 65) (L' := #[.val (.int p0), .val (.ref ad1), .val (.int (7 : Int32)), .val (.ref e_MEMBER), .unset]) at_64 (rfl) rfl rfl ?_
    refine OwnW.iconst (pc' := 66) (v := (0 : Int32)) at_65 rfl rfl ?_
    refine OwnW.istore (pc' := 68) (L' := #[.val (.int p0), .val (.ref ad1), .val (.int (7 : Int32)), .val (.ref e_MEMBER), .val (.int (0 : Int32))]) at_66 rfl rfl ?_
    refine OwnW.iloadN (pc' := 69) at_68 rfl rfl ?_
    refine OwnW.ifcY (pc' := 78) at_69 ((if0 _ _).trans (feq (by decide)).2) (by decide) (by decide) ?_
    refine OwnW.iloadN (pc' := 79) at_78 rfl rfl ?_
    refine OwnW.iconst (pc' := 80) (v := (1 : Int32)) at_79 rfl rfl ?_
    refine OwnW.icmpY (pc' := 86) at_80 (feq (by decide)).2 (by decide) (by decide) ?_
    refine OwnW.aloadN (pc' := 87) at_86 rfl (rfl) rfl ?_
    refine OwnW.callV0 (a0 := a0) (pc' := 90) (W := 0) (k' := 1) (n' := 8) (argsL := []) (rest := []) (St' := [(.int (f1 e_MEMBER e_ELECTIVE e_ROTH))]) at_87 (hw _ (List.mem_of_getElem? (i := 20) rfl)) (hw _ (List.mem_of_getElem? (i := 21) rfl)) (hw _ (List.mem_of_getElem? (i := 23) rfl)) (hw _ (List.mem_of_getElem? (i := 22) rfl)) (hw _ (List.mem_of_getElem? (i := 3) rfl)) (hw _ (List.mem_of_getElem? (i := 24) rfl)) (by decide) (E_MEMBER.ext X25) (rm1 l Z a0 hw e_MEMBER e_ELECTIVE e_ROTH h24 n0 (S_ELECTIVE.ext X25) (S_ROTH.ext X25)) (by decide) (by decide) rfl rfl (by decide) (by decide) rfl pd_2829Z rfl rfl rfl (Nat.le_of_ble_eq_true rfl) rfl rfl ?_
    rw [show (f1 e_MEMBER e_ELECTIVE e_ROTH) = (0 : Int32) from (if_neg (Ne.symm (O_ELECTIVE_ordinal.ne O_MEMBER_ordinal (by decide)))).trans (if_neg (Ne.symm (O_ROTH_ordinal.ne O_MEMBER_ordinal (by decide))))]
    show GoB0 l Z n0 OwnW.One1 h24 1 8 90 #[.val (.int p0), .val (.ref ad1), .val (.int (7 : Int32)), .val (.ref e_MEMBER), .val (.int (0 : Int32))] [(.int (0 : Int32))]
    refine OwnW.iload (pc' := 92) at_90 rfl rfl ?_
    refine OwnW.icmpN (pc' := 95) at_92 (teq (by decide)).2 rfl ?_
    refine OwnW.iconst (pc' := 96) (v := (1 : Int32)) at_95 rfl rfl ?_
    refine OwnW.goto (pc' := 100) at_96 (by decide) (by decide) ?_
    exact OwnW.retN (t := .boolean) at_100 rfl (by simp) rfl (by decide) (by decide) (rfl)
set_option maxRecDepth 65536 in
set_option maxHeartbeats 400000000 in
theorem comes_1 {Post : Tables → Env → Array Value → State → Outcome → State → Prop} (hpost : ∀ tb e args s v u, (limb_1_1.after args s (.returned v) u = true ∧ limb_1_2.after args s (.returned v) u = true ∧ True) → FrameEnd s (.returned v) u (Jvm.fieldLocs frame_1_writes args s ++ Jvm.arrayLocs frame_1_arrays args s ++ Jvm.staticLocs frame_1_statics s) 16 128 → Post tb e args s (.returned v) u) :
    ArmFor flags0 classFile x code maxLocals ret World_1 tables_1 room_1 Calls_1 rest_1 Pre_1 Post := by
  intro l hfl _ _ p e ha hc hk s m args below hf hA hF happ hP
  obtain ⟨hcalls, hrest, hpre⟩ := hP
  obtain ⟨-, -, -, hnamed, -, -, -, hat⟩ := (Spec.applies_iff hf).mp happ
  obtain ⟨hg, hn⟩ := and_e (Cond.before_iff.mp (show (Jvm.Cond.and given_1 narrow_1).before args s = true from hpre))
  obtain ⟨hcount, hr0⟩ := and_e hg
  obtain ⟨w0, rfl⟩ : ∃ w0 : Value, args = #[w0] := by
    have hs : args.size = 1 := by simpa [Cond.value, given_1] using hcount
    obtain ⟨L⟩ := args
    match L, hs with
    | [w0], _ => exact ⟨w0, rfl⟩
  have hw := fun d (hd : d ∈ tables_1) => atoms_spec (ws := Jvm.Cond.code x code maxLocals ret :: tables_1) hat d (List.mem_cons_of_mem _ hd)
  have hfit : Fit s := fun {y c} hc i hi => by
    obtain ⟨ha, rfl⟩ := Array.getElem?_eq_some_iff.mp hc
    have q := List.all_eq_true.mp ((Array.all_eq_true_iff_forall_mem.mp hF) _ (Array.getElem_mem ha)) i (List.mem_range.mpr hi)
    simpa [Array.getElem?_eq_getElem hi] using q
  obtain ⟨i0, ei0⟩ := is_v hr0
  obtain rfl : w0 = (.int i0) := Option.some.inj ei0
  obtain ⟨hN0, hM0⟩ := and_e hn
  obtain ⟨hN1, hM1⟩ := and_e hM0
  obtain ⟨hN2, hM2⟩ := and_e hM1
  obtain ⟨hN3, hM3⟩ := and_e hM2
  obtain ⟨hN4, hM4⟩ := and_e hM3
  obtain ⟨hN5, hM5⟩ := and_e hM4
  obtain ⟨hN6, hM6⟩ := and_e hM5
  obtain ⟨hN7, hM7⟩ := and_e hM6
  obtain ⟨hN8, hM8⟩ := and_e hM7
  obtain ⟨hN9, hM9⟩ := and_e hM8
  obtain ⟨hN10, hM10⟩ := and_e hM9
  obtain ⟨hN11, hM11⟩ := and_e hM10
  obtain ⟨hN12, hM12⟩ := and_e hM11
  obtain ⟨hN13, hM13⟩ := and_e hM12
  obtain ⟨hN14, hM14⟩ := and_e hM13
  have hN15 := hM14
  obtain ⟨e_ELECTIVE, ev_ELECTIVE⟩ := exa_v hN0
  have S_ELECTIVE : Sta s s.heap "com/example/vestry/vestry/model/SourceKind" "ELECTIVE" "Lcom/example/vestry/vestry/model/SourceKind;" (.ref e_ELECTIVE) := Sta.start ev_ELECTIVE (Or.inr ⟨(hw _ (List.mem_of_getElem? (i := 3) rfl)), (hw _ (List.mem_of_getElem? (i := 4) rfl))⟩)
  have E_ELECTIVE : Exa s s.heap e_ELECTIVE "com/example/vestry/vestry/model/SourceKind" := Exa.start ev_ELECTIVE hN0
  obtain ⟨e_ROTH, ev_ROTH⟩ := exa_v hN1
  have S_ROTH : Sta s s.heap "com/example/vestry/vestry/model/SourceKind" "ROTH" "Lcom/example/vestry/vestry/model/SourceKind;" (.ref e_ROTH) := Sta.start ev_ROTH (Or.inr ⟨(hw _ (List.mem_of_getElem? (i := 3) rfl)), (hw _ (List.mem_of_getElem? (i := 7) rfl))⟩)
  have E_ROTH : Exa s s.heap e_ROTH "com/example/vestry/vestry/model/SourceKind" := Exa.start ev_ROTH hN1
  obtain ⟨e_AFTER_TAX, ev_AFTER_TAX⟩ := exa_v hN2
  have S_AFTER_TAX : Sta s s.heap "com/example/vestry/vestry/model/SourceKind" "AFTER_TAX" "Lcom/example/vestry/vestry/model/SourceKind;" (.ref e_AFTER_TAX) := Sta.start ev_AFTER_TAX (Or.inr ⟨(hw _ (List.mem_of_getElem? (i := 3) rfl)), (hw _ (List.mem_of_getElem? (i := 9) rfl))⟩)
  have E_AFTER_TAX : Exa s s.heap e_AFTER_TAX "com/example/vestry/vestry/model/SourceKind" := Exa.start ev_AFTER_TAX hN2
  obtain ⟨e_EMPLOYER, ev_EMPLOYER⟩ := exa_v hN3
  have S_EMPLOYER : Sta s s.heap "com/example/vestry/vestry/model/SourceKind" "EMPLOYER" "Lcom/example/vestry/vestry/model/SourceKind;" (.ref e_EMPLOYER) := Sta.start ev_EMPLOYER (Or.inr ⟨(hw _ (List.mem_of_getElem? (i := 3) rfl)), (hw _ (List.mem_of_getElem? (i := 11) rfl))⟩)
  have E_EMPLOYER : Exa s s.heap e_EMPLOYER "com/example/vestry/vestry/model/SourceKind" := Exa.start ev_EMPLOYER hN3
  obtain ⟨e_ROLLOVER, ev_ROLLOVER⟩ := exa_v hN4
  have S_ROLLOVER : Sta s s.heap "com/example/vestry/vestry/model/SourceKind" "ROLLOVER" "Lcom/example/vestry/vestry/model/SourceKind;" (.ref e_ROLLOVER) := Sta.start ev_ROLLOVER (Or.inr ⟨(hw _ (List.mem_of_getElem? (i := 3) rfl)), (hw _ (List.mem_of_getElem? (i := 13) rfl))⟩)
  have E_ROLLOVER : Exa s s.heap e_ROLLOVER "com/example/vestry/vestry/model/SourceKind" := Exa.start ev_ROLLOVER hN4
  obtain ⟨e_TRANSFER, ev_TRANSFER⟩ := exa_v hN5
  have S_TRANSFER : Sta s s.heap "com/example/vestry/vestry/model/SourceKind" "TRANSFER" "Lcom/example/vestry/vestry/model/SourceKind;" (.ref e_TRANSFER) := Sta.start ev_TRANSFER (Or.inr ⟨(hw _ (List.mem_of_getElem? (i := 3) rfl)), (hw _ (List.mem_of_getElem? (i := 15) rfl))⟩)
  have E_TRANSFER : Exa s s.heap e_TRANSFER "com/example/vestry/vestry/model/SourceKind" := Exa.start ev_TRANSFER hN5
  obtain ⟨e_OPENING, ev_OPENING⟩ := exa_v hN6
  have S_OPENING : Sta s s.heap "com/example/vestry/vestry/model/SourceKind" "OPENING" "Lcom/example/vestry/vestry/model/SourceKind;" (.ref e_OPENING) := Sta.start ev_OPENING (Or.inr ⟨(hw _ (List.mem_of_getElem? (i := 3) rfl)), (hw _ (List.mem_of_getElem? (i := 17) rfl))⟩)
  have E_OPENING : Exa s s.heap e_OPENING "com/example/vestry/vestry/model/SourceKind" := Exa.start ev_OPENING hN6
  obtain ⟨e_MEMBER, ev_MEMBER⟩ := exa_v hN7
  have S_MEMBER : Sta s s.heap "com/example/vestry/vestry/model/SourceKind" "MEMBER" "Lcom/example/vestry/vestry/model/SourceKind;" (.ref e_MEMBER) := Sta.start ev_MEMBER (Or.inr ⟨(hw _ (List.mem_of_getElem? (i := 3) rfl)), (hw _ (List.mem_of_getElem? (i := 19) rfl))⟩)
  have E_MEMBER : Exa s s.heap e_MEMBER "com/example/vestry/vestry/model/SourceKind" := Exa.start ev_MEMBER hN7
  have O_EMPLOYER_ordinal : Fld s s.heap e_EMPLOYER "java/lang/Enum" "ordinal" "I" (.int (3 : Int32)) := Fld.start ((fld_at ev_EMPLOYER).symm.trans (OwnW.eqI hN8 (Term.int_eval (3 : Int32))))
  have O_ELECTIVE_ordinal : Fld s s.heap e_ELECTIVE "java/lang/Enum" "ordinal" "I" (.int (0 : Int32)) := Fld.start ((fld_at ev_ELECTIVE).symm.trans (OwnW.eqI hN9 (Term.int_eval (0 : Int32))))
  have O_ROTH_ordinal : Fld s s.heap e_ROTH "java/lang/Enum" "ordinal" "I" (.int (1 : Int32)) := Fld.start ((fld_at ev_ROTH).symm.trans (OwnW.eqI hN10 (Term.int_eval (1 : Int32))))
  have O_OPENING_ordinal : Fld s s.heap e_OPENING "java/lang/Enum" "ordinal" "I" (.int (6 : Int32)) := Fld.start ((fld_at ev_OPENING).symm.trans (OwnW.eqI hN11 (Term.int_eval (6 : Int32))))
  have O_MEMBER_ordinal : Fld s s.heap e_MEMBER "java/lang/Enum" "ordinal" "I" (.int (7 : Int32)) := Fld.start ((fld_at ev_MEMBER).symm.trans (OwnW.eqI hN12 (Term.int_eval (7 : Int32))))
  have O_AFTER_TAX_ordinal : Fld s s.heap e_AFTER_TAX "java/lang/Enum" "ordinal" "I" (.int (2 : Int32)) := Fld.start ((fld_at ev_AFTER_TAX).symm.trans (OwnW.eqI hN13 (Term.int_eval (2 : Int32))))
  have O_ROLLOVER_ordinal : Fld s s.heap e_ROLLOVER "java/lang/Enum" "ordinal" "I" (.int (4 : Int32)) := Fld.start ((fld_at ev_ROLLOVER).symm.trans (OwnW.eqI hN14 (Term.int_eval (4 : Int32))))
  have O_TRANSFER_ordinal : Fld s s.heap e_TRANSFER "java/lang/Enum" "ordinal" "I" (.int (5 : Int32)) := Fld.start ((fld_at ev_TRANSFER).symm.trans (OwnW.eqI hN15 (Term.int_eval (5 : Int32))))
  obtain ⟨n, o, h1, h2, h3, _, L, rfl, ⟨rfl, N⟩, hq⟩ := rm0 l s _ hw i0 e_ELECTIVE e_ROTH e_AFTER_TAX e_EMPLOYER e_ROLLOVER e_TRANSFER e_OPENING e_MEMBER s.heap s.heap.size (Nat.le_refl _) S_ELECTIVE E_ELECTIVE S_ROTH E_ROTH S_AFTER_TAX E_AFTER_TAX S_EMPLOYER E_EMPLOYER S_ROLLOVER E_ROLLOVER S_TRANSFER E_TRANSFER S_OPENING E_OPENING S_MEMBER E_MEMBER O_EMPLOYER_ordinal O_ELECTIVE_ordinal O_ROTH_ordinal O_OPENING_ordinal O_MEMBER_ordinal O_AFTER_TAX_ordinal O_ROLLOVER_ordinal O_TRANSFER_ordinal tables_1 p e ha hc hk s m _ below hf ((Spec.applies_iff_loose hf).mp happ).1 ⟨rfl, State.Warmed39.refl s, rfl⟩ trivial
  refine ⟨n, _, h1, h2, h3, hpost _ _ _ _ _ _ ⟨Cond.after_iff.mpr rfl, Cond.after_iff.mpr (eq_i res_at (Term.int_eval (1)) rfl), trivial⟩ ⟨hq.1, hq.2.1, (hq.2.2.sift fun y hy => Or.inr (N y hy)).mono (by decide) (by decide)⟩⟩
theorem main_1_1 : Claimed_1_1 := comes_1 fun _ _ _ _ _ _ h hF => ⟨h.1, hF⟩
theorem main_1_2 : Claimed_1_2 := comes_1 fun _ _ _ _ _ _ h hF => ⟨h.2.1, hF⟩
end Jvm.Pilot.@@N@@
namespace Jvm.Pilot.@@N@@
open Jvm Jvm.ClassFile Sem Op Lib Jvm.Free Jvm.Stand Jvm.Pilot.@@N@@.Jvm.D
/-! MADE BY PROGRAM (witnessworld.py) out of the Statement's table words and the real class files: 13 classes; the members and pool entries that the words name. The judged class is class 1, her method 1. -/
namespace start1
open Jvm.ClassFile
def u (s : String) : CpInfo := .utf8 (stringToUtf16 s)
/-- a pool by its gaps: so many unusable entries, then the entry; so many at the end -/
def gap : Nat → List CpInfo → List CpInfo
  | 0, r => r
  | n + 1, r => .unusable :: gap n r
def poolList (es : List (Nat × CpInfo)) (last : Nat) : List CpInfo := es.foldr (fun e r => gap e.1 (e.2 :: r)) (gap last [])
def pool (es : List (Nat × CpInfo)) (last : Nat) : Array CpInfo := ⟨poolList es last⟩
def fileOf (pool : Array CpInfo) (this : Nat) (attrs : Array Attribute := #[]) (ms : Array MethodInfo := #[]) (fl : Nat := 33) (sup : Nat := 0) (ifs : Array Nat := #[]) (fds : Array FieldInfo := #[]) : ClassFile where
  minorVersion := 0
  majorVersion := 65
  constantPool := pool
  accessFlags := fl
  thisClass := this
  superClass := sup
  interfaces := ifs
  fields := fds
  methods := ms
  attributes := attrs
def plain (name : String) (sup : Option ClassId) : Class where
  name := name
  kind := .ordinary
  loader := none
  accessFlags := 33
  super := sup
  interfaces := #[]
  cf := none
  fields := #[]
  methods := #[]
  instanceTypes := #[]
  staticTypes := #[]
  resolved := #[]
  callSites := []
  init := .initialized
  statics := none
  mirror := none

def pool0 : Array CpInfo := pool [(5, u "<init>"), (0, u "()V"), (1, .class_ 10), (1, u "java/lang/Object")] 113

def k0m0 : Method := { name := "<init>", desc := "()V", sig := { parameters := [], returnType := none }, accessFlags := 1, code := none }
/-- java/lang/Object -/
def k0 : Class := { plain "java/lang/Object" none with
  accessFlags := 33
  interfaces := #[]
  cf := some (fileOf pool0 8 #[] #[{ accessFlags := 1, nameIndex := 5, descriptorIndex := 6, attributes := #[] }] 33 0 #[] #[])
  fields := #[]
  methods := #[k0m0]
  instanceTypes := #[]
  staticTypes := #[]
  resolved := Array.replicate 124 none
  statics := none }

def pool1 : Array CpInfo := pool [(2, .class_ 4), (1, u "java/lang/Object"), (0, u "<init>"), (0, u "()V"), (0, .class_ 8), (0, u "com/example/vestry/vestry/model/SourceKind"), (0, .fieldref 7 10), (0, .nameAndType 11 12), (0, u "ELECTIVE"), (0, u "Lcom/example/vestry/vestry/model/SourceKind;"), (0, .fieldref 7 14), (0, .nameAndType 15 12), (0, u "ROTH"), (0, .fieldref 7 17), (0, .nameAndType 18 12), (0, u "AFTER_TAX"), (0, .fieldref 7 20), (0, .nameAndType 21 12), (0, u "EMPLOYER"), (0, .fieldref 7 23), (0, .nameAndType 24 12), (0, u "ROLLOVER"), (0, .fieldref 7 26), (0, .nameAndType 27 12), (0, u "TRANSFER"), (0, .fieldref 7 29), (0, .nameAndType 30 12), (0, u "OPENING"), (0, .fieldref 7 32), (0, .nameAndType 33 12), (0, u "MEMBER"), (0, .methodref 7 35), (0, .nameAndType 36 37), (0, u "isElectiveDeferral"), (0, u "()Z"), (0, .class_ 39), (0, u "com/example/vestry/vestry/model/SourceKindIsElectiveDeferralPinLaw"), (2, u "law"), (0, u "(I)Z")] 5

def k1m0 : Method := { name := "<init>", desc := "()V", sig := { parameters := [], returnType := none }, accessFlags := 1, code := none }
def k1c1 : Code := { maxStack := 4, maxLocals := 5, code := code, exceptionTable := #[], attributes := #[] }
def k1m1 : Method := { name := "law", desc := "(I)Z", sig := { parameters := [.int], returnType := some .boolean }, accessFlags := 9, code := some k1c1 }
/-- com/example/vestry/vestry/model/SourceKindIsElectiveDeferralPinLaw -/
def k1 : Class := { plain "com/example/vestry/vestry/model/SourceKindIsElectiveDeferralPinLaw" (some 0) with
  accessFlags := 49
  interfaces := #[]
  cf := some (fileOf pool1 38 #[] #[{ accessFlags := 1, nameIndex := 5, descriptorIndex := 6, attributes := #[] }, { accessFlags := 9, nameIndex := 42, descriptorIndex := 43, attributes := #[] }] 49 2 #[] #[])
  fields := #[]
  methods := #[k1m0, k1m1]
  instanceTypes := #[]
  staticTypes := #[]
  resolved := Array.replicate 49 none
  statics := none }

def pool2 : Array CpInfo := pool [(1, .class_ 2), (0, u "java/lang/constant/Constable"), (0, .class_ 4), (0, u "java/lang/Object")] 6

/-- java/lang/constant/Constable -/
def k2 : Class := { plain "java/lang/constant/Constable" (some 0) with
  accessFlags := 1537
  interfaces := #[]
  cf := some (fileOf pool2 1 #[] #[] 1537 3 #[] #[])
  fields := #[]
  methods := #[]
  instanceTypes := #[]
  staticTypes := #[]
  resolved := Array.replicate 11 none
  statics := none }

def pool3 : Array CpInfo := pool [(1, .class_ 2), (0, u "java/lang/Comparable"), (0, .class_ 4), (0, u "java/lang/Object")] 7

/-- java/lang/Comparable -/
def k3 : Class := { plain "java/lang/Comparable" (some 0) with
  accessFlags := 1537
  interfaces := #[]
  cf := some (fileOf pool3 1 #[] #[] 1537 3 #[] #[])
  fields := #[]
  methods := #[]
  instanceTypes := #[]
  staticTypes := #[]
  resolved := Array.replicate 12 none
  statics := none }

def pool4 : Array CpInfo := pool [(1, .class_ 2), (0, u "java/io/Serializable"), (0, .class_ 4), (0, u "java/lang/Object")] 2

/-- java/io/Serializable -/
def k4 : Class := { plain "java/io/Serializable" (some 0) with
  accessFlags := 1537
  interfaces := #[]
  cf := some (fileOf pool4 1 #[] #[] 1537 3 #[] #[])
  fields := #[]
  methods := #[]
  instanceTypes := #[]
  staticTypes := #[]
  resolved := Array.replicate 7 none
  statics := none }

def pool5 : Array CpInfo := pool [(2, .class_ 4), (1, u "java/lang/Enum"), (0, u "name"), (0, u "Ljava/lang/String;"), (2, u "ordinal"), (0, u "I"), (1, .class_ 14), (1, u "java/lang/Object"), (4, u "hash"), (86, .class_ 108), (1, u "java/lang/Enum$EnumDesc"), (2, .class_ 112), (0, u "java/lang/constant/Constable"), (0, .class_ 114), (0, u "java/lang/Comparable"), (0, .class_ 116), (0, u "java/io/Serializable")] 87

/-- java/lang/Enum -/
def k5 : Class := { plain "java/lang/Enum" (some 0) with
  accessFlags := 1057
  interfaces := #[2, 3, 4]
  cf := some (fileOf pool5 2 #[.nestMembers #[106]] #[] 1057 12 #[111, 113, 115] #[{ accessFlags := 18, nameIndex := 5, descriptorIndex := 6, attributes := #[] }, { accessFlags := 18, nameIndex := 9, descriptorIndex := 10, attributes := #[] }, { accessFlags := 2, nameIndex := 19, descriptorIndex := 10, attributes := #[] }])
  fields := #[{ name := "name", type := (.object "java/lang/String"), accessFlags := 18, slot := 0, constantValue := 0 }, { name := "ordinal", type := .int, accessFlags := 18, slot := 1, constantValue := 0 }, { name := "hash", type := .int, accessFlags := 2, slot := 2, constantValue := 0 }]
  methods := #[]
  instanceTypes := #[(.object "java/lang/String"), .int, .int]
  staticTypes := #[]
  resolved := Array.replicate 204 none
  statics := none }

def pool6 : Array CpInfo := pool [(1, .class_ 2), (0, u "com/example/vestry/vestry/model/SourceKind"), (0, .fieldref 1 4), (0, .nameAndType 5 6), (0, u "ELECTIVE"), (0, u "Lcom/example/vestry/vestry/model/SourceKind;"), (0, .fieldref 1 8), (0, .nameAndType 9 6), (0, u "ROTH"), (2, u "AFTER_TAX"), (2, u "EMPLOYER"), (2, u "ROLLOVER"), (2, u "TRANSFER"), (2, u "OPENING"), (2, u "MEMBER"), (2, u "$VALUES"), (0, u "[Lcom/example/vestry/vestry/model/SourceKind;"), (6, .class_ 40), (1, u "java/lang/Enum"), (8, u "planName"), (0, u "Ljava/lang/String;"), (57, u "isElectiveDeferral"), (0, u "()Z")] 10

def k6c0 : Code := { maxStack := 2, maxLocals := 1, code := prog_54_method_5_code, exceptionTable := #[], attributes := #[] }
def k6m0 : Method := { name := "isElectiveDeferral", desc := "()Z", sig := { parameters := [], returnType := some .boolean }, accessFlags := 1, code := some k6c0 }
/-- com/example/vestry/vestry/model/SourceKind -/
def k6 : Class := { plain "com/example/vestry/vestry/model/SourceKind" (some 5) with
  accessFlags := 16433
  interfaces := #[]
  cf := some (fileOf pool6 1 #[] #[{ accessFlags := 1, nameIndex := 108, descriptorIndex := 109, attributes := #[] }] 16433 38 #[] #[{ accessFlags := 16409, nameIndex := 5, descriptorIndex := 6, attributes := #[] }, { accessFlags := 16409, nameIndex := 9, descriptorIndex := 6, attributes := #[] }, { accessFlags := 16409, nameIndex := 12, descriptorIndex := 6, attributes := #[] }, { accessFlags := 16409, nameIndex := 15, descriptorIndex := 6, attributes := #[] }, { accessFlags := 16409, nameIndex := 18, descriptorIndex := 6, attributes := #[] }, { accessFlags := 16409, nameIndex := 21, descriptorIndex := 6, attributes := #[] }, { accessFlags := 16409, nameIndex := 24, descriptorIndex := 6, attributes := #[] }, { accessFlags := 16409, nameIndex := 27, descriptorIndex := 6, attributes := #[] }, { accessFlags := 18, nameIndex := 49, descriptorIndex := 50, attributes := #[] }, { accessFlags := 4122, nameIndex := 30, descriptorIndex := 31, attributes := #[] }])
  fields := #[{ name := "ELECTIVE", type := (.object "com/example/vestry/vestry/model/SourceKind"), accessFlags := 16409, slot := 0, constantValue := 0 }, { name := "ROTH", type := (.object "com/example/vestry/vestry/model/SourceKind"), accessFlags := 16409, slot := 1, constantValue := 0 }, { name := "AFTER_TAX", type := (.object "com/example/vestry/vestry/model/SourceKind"), accessFlags := 16409, slot := 2, constantValue := 0 }, { name := "EMPLOYER", type := (.object "com/example/vestry/vestry/model/SourceKind"), accessFlags := 16409, slot := 3, constantValue := 0 }, { name := "ROLLOVER", type := (.object "com/example/vestry/vestry/model/SourceKind"), accessFlags := 16409, slot := 4, constantValue := 0 }, { name := "TRANSFER", type := (.object "com/example/vestry/vestry/model/SourceKind"), accessFlags := 16409, slot := 5, constantValue := 0 }, { name := "OPENING", type := (.object "com/example/vestry/vestry/model/SourceKind"), accessFlags := 16409, slot := 6, constantValue := 0 }, { name := "MEMBER", type := (.object "com/example/vestry/vestry/model/SourceKind"), accessFlags := 16409, slot := 7, constantValue := 0 }, { name := "planName", type := (.object "java/lang/String"), accessFlags := 18, slot := 3, constantValue := 0 }, { name := "$VALUES", type := (.array (.object "com/example/vestry/vestry/model/SourceKind")), accessFlags := 4122, slot := 8, constantValue := 0 }]
  methods := #[k6m0]
  instanceTypes := #[(.object "java/lang/String"), .int, .int, (.object "java/lang/String")]
  staticTypes := #[(.object "com/example/vestry/vestry/model/SourceKind"), (.object "com/example/vestry/vestry/model/SourceKind"), (.object "com/example/vestry/vestry/model/SourceKind"), (.object "com/example/vestry/vestry/model/SourceKind"), (.object "com/example/vestry/vestry/model/SourceKind"), (.object "com/example/vestry/vestry/model/SourceKind"), (.object "com/example/vestry/vestry/model/SourceKind"), (.object "com/example/vestry/vestry/model/SourceKind"), (.array (.object "com/example/vestry/vestry/model/SourceKind"))]
  resolved := Array.replicate 120 none
  statics := some 0 }

def pool7 : Array CpInfo := pool [(1, u "java/lang/Cloneable"), (0, .class_ 1), (0, u "java/lang/Object"), (0, .class_ 3)] 3

/-- java/lang/Cloneable -/
def k7 : Class := { plain "java/lang/Cloneable" (some 0) with
  accessFlags := 1537
  interfaces := #[]
  cf := some (fileOf pool7 2 #[] #[] 1537 4 #[] #[])
  fields := #[]
  methods := #[]
  instanceTypes := #[]
  staticTypes := #[]
  resolved := Array.replicate 8 none
  statics := none }

/-- the primitive byte -/
def k8 : Class := { plain "byte" none with kind := .primitive 'B', accessFlags := 0x411 }
/-- [B -/
def k9 : Class := { plain "[B" (some 0) with kind := .array 8 .byte, interfaces := #[7, 4], accessFlags := 1041 }

/-- the primitive int -/
def k10 : Class := { plain "int" none with kind := .primitive 'I', accessFlags := 0x411 }
/-- [I -/
def k11 : Class := { plain "[I" (some 0) with kind := .array 10 .int, interfaces := #[7, 4], accessFlags := 1041 }

/-- [Lcom/example/vestry/vestry/model/SourceKind; -/
def k12 : Class := { plain "[Lcom/example/vestry/vestry/model/SourceKind;" (some 0) with kind := .array 6 (.object "com/example/vestry/vestry/model/SourceKind"), interfaces := #[7, 4], accessFlags := 1041 }

def heap : Heap := #[{ cls := 6, slots := #[.ref 1, .ref 2, .ref 3, .ref 4, .ref 5, .ref 6, .ref 7, .ref 8, .null], vm := .statics 6 },
  { cls := 6, slots := #[.null, .int 0, .int 0, .null], vm := .none },
  { cls := 6, slots := #[.null, .int 1, .int 0, .null], vm := .none },
  { cls := 6, slots := #[.null, .int 2, .int 0, .null], vm := .none },
  { cls := 6, slots := #[.null, .int 3, .int 0, .null], vm := .none },
  { cls := 6, slots := #[.null, .int 4, .int 0, .null], vm := .none },
  { cls := 6, slots := #[.null, .int 5, .int 0, .null], vm := .none },
  { cls := 6, slots := #[.null, .int 6, .int 0, .null], vm := .none },
  { cls := 6, slots := #[.null, .int 7, .int 0, .null], vm := .none }]
def classes : Array Class := #[k0, k1, k2, k3, k4, k5, k6, k7, k8, k9, k10, k11, k12]
def interned : List (Array UInt16 × Addr) := []
def slotsUsed : Nat := 41
def theMethod : MethodId := ⟨1, 1⟩
def args0 : Array Value := #[.int 5]
def aboutOver (below : List Frame) : State where
  vm := { classes := classes, interned := interned.toArray }
  heap := heap
  slotsUsed := slotsUsed
  threads := #[{ frames := .invoking theMethod args0 :: below }]
def below0 : List Frame := [.native { method := ⟨0, 0⟩, args := #[] }]
def about1 : State := aboutOver below0
def p0 : Program := .bare "" "" ""
def e0 : Env := launch0.env 0 0 0
theorem w_frames : about1.frames = Frame.invoking theMethod args0 :: below0 := rfl
set_option maxRecDepth 65536 in
theorem w_args : argsFit about1.vm theMethod args0 = true := by decide +kernel
set_option maxRecDepth 65536 in
theorem w_heap : heapFits about1 = true := by decide +kernel
set_option maxRecDepth 65536 in
theorem w_runnable : about1.curStatus? = some .runnable := by decide +kernel
set_option maxRecDepth 65536 in
theorem w_alone : about1.alone = true := by decide +kernel
set_option maxRecDepth 65536 in
theorem w_named : about1.methodNamed? x = some theMethod := by decide +kernel
set_option maxRecDepth 65536 in
theorem w_hears : about1.hears theMethod below0 = true := by decide +kernel
set_option maxRecDepth 65536 in
theorem w_ripe : about1.ripe theMethod args0 below0 = true := by decide +kernel
theorem w_running : about1.status = .running := rfl
set_option maxRecDepth 65536 in
theorem w_room : about1.hasRoom e0.platform room_1 = true :=
  launch0.hasRoom_least _ room_1 (by decide +kernel) (by decide +kernel) (by decide +kernel) (by decide +kernel) (by decide +kernel) (by decide +kernel)
theorem allAtoms_all (ts : List Jvm.Cond) (a : Array Jvm.Value) (st : Jvm.State) : (allAtoms ts).before a st = ts.all (fun c => c.before a st) := by
  induction ts with
  | nil => rfl
  | cons c t ih =>
    show (Jvm.Cond.and c (allAtoms t)).before a st = _
    rw [Jvm.Cond.before_and, ih, List.all_cons]
def words1 : List Jvm.Cond := Jvm.Cond.code x code maxLocals ret :: tables_1
/-- a 'code' word, met by the world's own term for the bytes: nothing is compared byte by byte -/
theorem code_word {y : MethodName} {bytes : ByteArray} {mx : Nat} {rt : Option FieldType} {a : Array Value} {s : State} {m : MethodId} {meth : Method} {c : Code} (h1 : s.methodNamed? y = some m) (h2 : s.vm.method? m = some meth) (h3 : meth.code = some c) (h4 : c.code = bytes)
    (h5 : (c.maxLocals == mx && c.exceptionTable.isEmpty && decide (c.maxStack ≤ mostOperands) && decide (meth.sig.returnType = rt) && !meth.locks && decide (parseMethodDescriptor y.desc = some meth.sig)) = true) : (Jvm.Cond.code y bytes mx rt).before a s = true := by
  simp only [Bool.and_eq_true, beq_iff_eq, Bool.not_eq_true', decide_eq_true_eq] at h5
  obtain ⟨⟨⟨⟨⟨g1, g2⟩, g3⟩, g4⟩, g5⟩, g6⟩ := h5
  simp [Cond.before, Cond.holds, Cond.value, h1, h2, h3, h4, g1, g2, g3, g4, g5, g6]
def isCode : Jvm.Cond → Bool
  | .code _ _ _ _ => true
  | _ => false
theorem all_split {L : List Jvm.Cond} {P : Jvm.Cond → Bool} (h1 : L.all (fun c => isCode c || P c) = true) (h2 : ∀ c ∈ L.filter isCode, P c = true) : L.all P = true := by
  refine List.all_eq_true.mpr fun c hc => ?_
  have h := List.all_eq_true.mp h1 c hc
  rcases Bool.eq_false_or_eq_true (isCode c) with hi | hi
  · exact h2 c (List.mem_filter.mpr ⟨hc, hi⟩)
  · simpa [hi] using h
set_option maxRecDepth 65536 in
theorem w_c0 : (Jvm.Cond.code x code maxLocals ret).before args0 about1 = true := code_word (m := ⟨1, 1⟩) (meth := k1m1) (c := k1c1) (by decide +kernel) rfl rfl rfl (by decide +kernel)
set_option maxRecDepth 65536 in
theorem w_c1 : (Jvm.Cond.code ({ cls := "com/example/vestry/vestry/model/SourceKind", name := "isElectiveDeferral", desc := "()Z" } : Jvm.MethodName) prog_54_method_5_code (1 : Nat) (Option.some Jvm.ClassFile.FieldType.boolean)).before args0 about1 = true := code_word (m := ⟨6, 0⟩) (meth := k6m0) (c := k6c0) (by decide +kernel) rfl rfl rfl (by decide +kernel)
def codes1 : List Jvm.Cond := [Jvm.Cond.code x code maxLocals ret, Jvm.Cond.code ({ cls := "com/example/vestry/vestry/model/SourceKind", name := "isElectiveDeferral", desc := "()Z" } : Jvm.MethodName) prog_54_method_5_code (1 : Nat) (Option.some Jvm.ClassFile.FieldType.boolean)]
set_option maxRecDepth 65536 in
theorem codes_eq : words1.filter isCode = codes1 := rfl
theorem w_codes : ∀ c ∈ words1.filter isCode, c.before args0 about1 = true := by
  rw [codes_eq]
  intro c hc
  simp only [codes1, List.mem_cons, List.not_mem_nil, or_false] at hc
  rcases hc with rfl | rfl
  · exact w_c0
  · exact w_c1
set_option maxRecDepth 65536 in
theorem w_t1 : (words1.take 24).all (fun c => isCode c || c.before args0 about1) = true := by decide +kernel
set_option maxRecDepth 65536 in
theorem w_t2 : (words1.drop 24).all (fun c => isCode c || c.before args0 about1) = true := by decide +kernel
theorem w_tables : (allAtoms (Jvm.Cond.code x code maxLocals ret :: tables_1)).before args0 about1 = true := by
  rw [allAtoms_all]
  show words1.all (fun c => c.before args0 about1) = true
  refine all_split ?_ w_codes
  rw [← List.take_append_drop 24 words1, List.all_append, w_t1, w_t2]
  rfl
set_option maxRecDepth 65536 in
theorem w_case : (Jvm.Cond.and given_1 narrow_1).before args0 about1 = true := by decide +kernel
theorem w_applies : (headSpec (Jvm.Cond.code x code maxLocals ret :: tables_1) room_1).applies x e0.platform about1 = true :=
  (Spec.applies_iff w_frames).mpr ⟨w_running, w_runnable, w_alone, w_named, w_hears, w_ripe, w_room, w_tables⟩
theorem atStart : AtStart classFile x code maxLocals ret World_1 tables_1 room_1 Calls_1 rest_1 Pre_1 launch0 p0 e0 about1 theMethod args0 below0 :=
  ⟨lists_1, trivial, launch0.admits_env _ _ _, launch0.least_env, fairChoices_fair.cas, fairChoices_fair.clock, w_frames, w_args, w_heap, w_applies, trivial, trivial, w_case⟩
end start1
theorem witness_1 : WitnessClaimed_1 := ⟨start1.p0, start1.e0, start1.about1, start1.theMethod, start1.args0, start1.below0, start1.atStart⟩
end Jvm.Pilot.@@N@@
