import JvmDerived
import JvmDerived.Pilot.@@N@@Statement
import JvmDerived.Pilot.@@N@@Code
set_option linter.unusedVariables false
set_option linter.unusedSimpArgs false
namespace Jvm.OwnW
open Sem ClassFile Op Lib Jvm.Stand Jvm.Free Jvm.LawKit Jvm.RoadKit
/-- what a walk knows of its method and of the run -/
def Cx (p : Program) (s : State) (m : MethodId) (meth : Method) (c : Code) (Z : State) (y : MethodName) (bs : ByteArray) (ml : Nat) (ret : Option FieldType) : Prop :=
  p.tables.exec = Jvm.exec ∧ c.code = bs ∧ c.maxLocals = ml ∧ s.vm.findClass y.cls = some m.cls ∧ meth.name = y.name ∧ meth.sig.returnType = ret ∧ meth.locks = false ∧ Z.Warmed39 s.vm
/-- from the state u the body comes to its end, returns v and leaves the heap as Q says; it wrote cells from n0 on alone -/
def Runs (p : Program) (e : Env) (below : List Frame) (s : State) (R : Room) (n0 : Nat) (Q : Option Value → Heap → Prop) (u : State) : Prop :=
  ∃ s₂ o, Steps p.tables e below u s₂ ∧ s₂.status = .running ∧ Ended s₂ below o ∧ ∃ v Ls, o = .returned v ∧ (Q v s₂.heap ∧ Fr n0 Ls) ∧ FrameEnd s o s₂ Ls R.cells R.slots
/-- from pc with these locals and this stack, the heap being h, k cells and n slots made so far: the body ends as Q says -/
def Go (l : Launch) (Z : State) (R : Room) (y : MethodName) (bs : ByteArray) (ml : Nat) (ret : Option FieldType) (n0 : Nat) (Q : Option Value → Heap → Prop) (h : Heap) (k n : Nat) (pc : Nat) (L : Array Slot) (St : List Value) : Prop :=
  ∀ (p : Program) (e : Env) (s : State) (m : MethodId) (args : Array Value) (below : List Frame) (meth : Method) (c : Code) (T : State) (locs : List Loc),
    Cx p s m meth c Z y bs ml ret → Stand p l e R s m args below meth c T locs k n → Fr n0 locs → T.heap = h → Runs p e below s R n0 Q (T.setTop (mkF m pc L St))
/-- it returns r, the heap as it was -/
def Ret (r : Option Value) (h0 : Heap) : Option Value → Heap → Prop := fun v h => v = r ∧ h0 = h
/-- the law says 1 -/
def One1 : Option Value → Heap → Prop := fun v _ => v = some (.int 1)
/-- the body's contract -/
def Con (l : Launch) (Z : State) (R : Room) (y : MethodName) (bs : ByteArray) (ml : Nat) (ret : Option FieldType) (n0 : Nat) (as' : Array Value) (h : Heap) (Q : Option Value → Heap → Prop) : Prop :=
  ∀ ws, MetFree l y (head1 (Jvm.Cond.code y bs ml ret :: ws) R) (fun a U => a = as' ∧ Z.Warmed39 U.vm ∧ U.heap = h) (fun _ _ _ _ _ => True) (fun _ U o U' => ∃ v Ls, o = .returned v ∧ (Q v U'.heap ∧ Fr n0 Ls) ∧ FrameEnd U o U' Ls R.cells R.slots)
theorem Runs.thru {p : Program} {e : Env} {below : List Frame} {s : State} {R : Room} {n0 : Nat} {Q : Option Value → Heap → Prop} {u u' : State} (q : Runs p e below s R n0 Q u') (st : ∀ t, Steps p.tables e below u' t → Steps p.tables e below u t) : Runs p e below s R n0 Q u := by
  obtain ⟨s₂, o, h1, r⟩ := q
  exact ⟨s₂, o, st _ h1, r⟩
/-- what stood in h0 stands in h -/
theorem ext_refl (h : Heap) : Ext h h := ⟨Nat.le_refl _, fun _ _ q => q⟩
theorem ext_trans {h0 h h' : Heap} (X : Ext h0 h) (E : Ext h h') : Ext h0 h' := ⟨Nat.le_trans X.1 E.1, fun a c q => E.2 a c (X.2 a c q)⟩
theorem ext_keep {h0 h h' : Heap} {ws : List Addr} (X : Ext h0 h) (K : Keep h h' ws) (q : ∀ x ∈ ws, h0.size ≤ x) : Ext h0 h' :=
  ⟨Nat.le_trans X.1 K.1, fun a c r => K.2.1 a c (X.2 a c r) fun z => absurd (Array.getElem?_eq_some_iff.mp r).1 (Nat.not_lt.mpr (q a z))⟩
theorem ext_wr {h0 h h' : Heap} {a : Addr} {sl : Nat} {v : Value} (X : Ext h0 h) (W : Wr h h' a sl v) (q : h0.size ≤ a) : Ext h0 h' := ext_keep X (Keep.of_wr W) (allS q all0)
theorem exa_ns {Z : State} {h : Heap} {a : Addr} {C : String} (E : Exa Z h a C) : ∀ c : Cell, h[a]? = some c → c.vm.isStatics = false := fun c q => by
  obtain ⟨cell, k, h1, -, -, h4, -⟩ := E
  cases h1.symm.trans q
  exact h4
theorem sta_keep {Z : State} {h h' : Heap} {C n d : String} {w : Value} {ws : List Addr} (F : Sta Z h C n d w) (K : Keep h h' ws) (q : ∀ x ∈ ws, ∀ c : Cell, h[x]? = some c → c.vm.isStatics = false) : Sta Z h' C n d w := by
  obtain ⟨cf, i, k, f, st, cell, h1, h2, h3, h4, h5, h6, h7⟩ := F
  exact ⟨cf, i, k, f, st, cell, h1, h2, h3, h4, K.2.1 st cell h5 (fun m => by have r := q st m cell h5; rw [h6] at r; cases r), h6, h7⟩
theorem eqI {args : Array Value} {first s : State} {o : Option Outcome} {idx : List Nat} {a b : Term} {k : Int32} (h : (Cond.eq a b).value args first o s idx = some true) (hb : b.eval args first o idx s = some (.int k)) : a.eval args first o idx s = some (.int k) := by
  obtain ⟨x, z, e1, e2, k1, k2⟩ := cmp_v (Or.inl h)
  cases hb.symm.trans e2
  obtain ⟨w, rfl⟩ := k2
  have h' := h
  simp only [Cond.value, e1, hb, Option.some.injEq, decide_eq_true_eq] at h'
  rw [e1, h']
theorem eqJ {args : Array Value} {first s : State} {o : Option Outcome} {idx : List Nat} {a b : Term} {k : Int64} (h : (Cond.eq a b).value args first o s idx = some true) (hb : b.eval args first o idx s = some (.long k)) : a.eval args first o idx s = some (.long k) := by
  obtain ⟨x, z, e1, e2, k1, k2⟩ := cmp_v (Or.inl h)
  cases hb.symm.trans e2
  obtain ⟨w, rfl⟩ := k2
  have h' := h
  simp only [Cond.value, e1, hb, Option.some.injEq, decide_eq_true_eq] at h'
  rw [e1, h']
theorem arrClass {Z : State} {a0 : Array Value} {C : String} (w : (Cond.arrayOver (.object C)).before a0 Z = true) : (Cond.arrayClass (.object C)).before a0 Z = true := by
  obtain ⟨comp, c, k, -, -, h3, h4, h5⟩ := Cond.arrayOver_spec w
  simp [Cond.before, Cond.holds, Cond.value, h5, h3, h4]
theorem ovrOf {Z : State} {a0 : Array Value} {C : String} {cI : ClassId} (w : (Cond.arrayOver (.object C)).before a0 Z = true) (h : Z.vm.findClass (FieldType.array (.object C)).toString = some cI) : Ovr Z cI C := by
  obtain ⟨comp, c, k, h1, -, h3, h4, h5⟩ := Cond.arrayOver_spec w
  have e : (FieldType.array (.object C)).toString = "[" ++ (FieldType.object C).toString := rfl
  rw [e, h5] at h
  cases h
  exact ⟨k, comp, h3, h4, h1⟩
section Laws
variable {l : Launch} {Z : State} {R : Room} {y : MethodName} {bs : ByteArray} {ml : Nat} {ret : Option FieldType} {n0 : Nat} {Q : Option Value → Heap → Prop} {h : Heap} {k n : Nat} {k' n' : Nat} {pc pc' : Nat} {L L' : Array Slot} {St : List Value} {a0 : Array Value}
theorem Con.of {as' : Array Value} (pn : plainFor y = true) (ef : ∀ m, entryFrame m as' ml = mkF m 0 L []) (b : Go l Z R y bs ml ret n0 Q h 0 0 0 L []) : Con l Z R y bs ml ret n0 as' h Q := by
  intro ws
  refine MetFree.of_bodySF pn hisR ?_
  intro p e s m args below meth c s₁ Bd hml0 hP hK
  obtain ⟨rfl, hZ, hh⟩ := hP
  have X0 : Stand p l e R s m args below meth c s₁ [] 0 0 := Stand.of_body Bd
  have e0 : s₁.heap = h := by rw [← hh, Bd.state]; rfl
  have q := b p e s m args below meth c s₁ [] ⟨Bd.exec, Bd.bytes, hml0, findClass_of_methodNamed Bd.named, (name_of_methodNamed Bd.named Bd.method).1, Bd.returns, Bd.notSynchronized, hZ⟩ X0 (Fr.nil n0) e0
  rw [← ef m] at q
  exact q
theorem Con.mono {as' : Array Value} {Q' : Option Value → Heap → Prop} (q : Con l Z R y bs ml ret n0 as' h Q) (i : ∀ v h', Q v h' → Q' v h') : Con l Z R y bs ml ret n0 as' h Q' := by
  intro ws p e ha hc hk s m args below hf happ hP hK
  obtain ⟨s₂, o, h1, h2, h3, v, Ls, h4, ⟨h5, h6⟩, h7⟩ := q ws p e ha hc hk s m args below hf happ hP hK
  exact ⟨s₂, o, h1, h2, h3, v, Ls, h4, ⟨i _ _ h5, h6⟩, h7⟩
/-- the same, the heap's name turned -/
theorem Go.cast {h' : Heap} (e : h' = h) (q : Go l Z R y bs ml ret n0 Q h' k n pc L St) : Go l Z R y bs ml ret n0 Q h k n pc L St := e ▸ q
theorem Go.more {k' n' : Nat} (hk : k ≤ k') (hn : n ≤ n') (q : Go l Z R y bs ml ret n0 Q h k' n' pc L St) : Go l Z R y bs ml ret n0 Q h k n pc L St := fun p e s m args below meth c T locs C X N eT => q p e s m args below meth c T locs C (X.mono hk hn) N eT
theorem Go.frm {St' : List Value} (q : Go l Z R y bs ml ret n0 Q h k n pc L' St') (e1 : L = L') (e2 : St = St') : Go l Z R y bs ml ret n0 Q h k n pc L St := by subst e1 e2; exact q

theorem iload {i : Nat} {v : Int32} (hd : decode bs pc = .ok (.iload i, 2)) (hl : L[i]? = some (.val (.int v))) (hp : pc + 2 = pc') (kt : Go l Z R y bs ml ret n0 Q h k n pc' L (.int v :: St)) : Go l Z R y bs ml ret n0 Q h k n pc L St := by
  subst hp
  intro p e s m args below meth c T locs C X N eT
  exact (kt p e s m args below meth c T locs C X N eT).thru fun t q => XS.iload X.here C.1 rfl (hb C.2.1 hd) hl q
theorem iloadN {i : Fin 4} {v : Int32} (hd : decode bs pc = .ok (.iload_n i, 1)) (hl : L[i.val]? = some (.val (.int v))) (hp : pc + 1 = pc') (kt : Go l Z R y bs ml ret n0 Q h k n pc' L (.int v :: St)) : Go l Z R y bs ml ret n0 Q h k n pc L St := by
  subst hp
  intro p e s m args below meth c T locs C X N eT
  exact (kt p e s m args below meth c T locs C X N eT).thru fun t q => XS.iloadN X.here C.1 rfl (hb C.2.1 hd) hl q
theorem istore {i : Nat} {v : Int32} (hd : decode bs pc = .ok (.istore i, 2)) (hl : storeLocals L i (.int v) = some L') (hp : pc + 2 = pc') (kt : Go l Z R y bs ml ret n0 Q h k n pc' L' St) : Go l Z R y bs ml ret n0 Q h k n pc L (.int v :: St) := by
  subst hp
  intro p e s m args below meth c T locs C X N eT
  exact (kt p e s m args below meth c T locs C X N eT).thru fun t q => XS.istore X.here C.1 rfl (hb C.2.1 hd) rfl hl q
theorem istoreN {i : Fin 4} {v : Int32} (hd : decode bs pc = .ok (.istore_n i, 1)) (hl : storeLocals L i.val (.int v) = some L') (hp : pc + 1 = pc') (kt : Go l Z R y bs ml ret n0 Q h k n pc' L' St) : Go l Z R y bs ml ret n0 Q h k n pc L (.int v :: St) := by
  subst hp
  intro p e s m args below meth c T locs C X N eT
  exact (kt p e s m args below meth c T locs C X N eT).thru fun t q => XS.istoreN X.here C.1 rfl (hb C.2.1 hd) rfl hl q
theorem lload {i : Nat} {v : Int64} (hd : decode bs pc = .ok (.lload i, 2)) (hl : L[i]? = some (.val (.long v))) (hp : pc + 2 = pc') (kt : Go l Z R y bs ml ret n0 Q h k n pc' L (.long v :: St)) : Go l Z R y bs ml ret n0 Q h k n pc L St := by
  subst hp
  intro p e s m args below meth c T locs C X N eT
  exact (kt p e s m args below meth c T locs C X N eT).thru fun t q => XS.lload X.here C.1 rfl (hb C.2.1 hd) hl q
theorem lloadN {i : Fin 4} {v : Int64} (hd : decode bs pc = .ok (.lload_n i, 1)) (hl : L[i.val]? = some (.val (.long v))) (hp : pc + 1 = pc') (kt : Go l Z R y bs ml ret n0 Q h k n pc' L (.long v :: St)) : Go l Z R y bs ml ret n0 Q h k n pc L St := by
  subst hp
  intro p e s m args below meth c T locs C X N eT
  exact (kt p e s m args below meth c T locs C X N eT).thru fun t q => XS.lloadN X.here C.1 rfl (hb C.2.1 hd) hl q
theorem lstore {i : Nat} {v : Int64} (hd : decode bs pc = .ok (.lstore i, 2)) (hl : storeLocals L i (.long v) = some L') (hp : pc + 2 = pc') (kt : Go l Z R y bs ml ret n0 Q h k n pc' L' St) : Go l Z R y bs ml ret n0 Q h k n pc L (.long v :: St) := by
  subst hp
  intro p e s m args below meth c T locs C X N eT
  exact (kt p e s m args below meth c T locs C X N eT).thru fun t q => XS.lstore X.here C.1 rfl (hb C.2.1 hd) rfl hl q
theorem lstoreN {i : Fin 4} {v : Int64} (hd : decode bs pc = .ok (.lstore_n i, 1)) (hl : storeLocals L i.val (.long v) = some L') (hp : pc + 1 = pc') (kt : Go l Z R y bs ml ret n0 Q h k n pc' L' St) : Go l Z R y bs ml ret n0 Q h k n pc L (.long v :: St) := by
  subst hp
  intro p e s m args below meth c T locs C X N eT
  exact (kt p e s m args below meth c T locs C X N eT).thru fun t q => XS.lstoreN X.here C.1 rfl (hb C.2.1 hd) rfl hl q
theorem aload {i : Nat} {v : Value} (hd : decode bs pc = .ok (.aload i, 2)) (hl : L[i]? = some (.val v)) (hv : v.isRef = true) (hp : pc + 2 = pc') (kt : Go l Z R y bs ml ret n0 Q h k n pc' L (v :: St)) : Go l Z R y bs ml ret n0 Q h k n pc L St := by
  subst hp
  intro p e s m args below meth c T locs C X N eT
  exact (kt p e s m args below meth c T locs C X N eT).thru fun t q => XS.aload X.here C.1 rfl (hb C.2.1 hd) hl hv q
theorem aloadN {i : Fin 4} {v : Value} (hd : decode bs pc = .ok (.aload_n i, 1)) (hl : L[i.val]? = some (.val v)) (hv : v.isRef = true) (hp : pc + 1 = pc') (kt : Go l Z R y bs ml ret n0 Q h k n pc' L (v :: St)) : Go l Z R y bs ml ret n0 Q h k n pc L St := by
  subst hp
  intro p e s m args below meth c T locs C X N eT
  exact (kt p e s m args below meth c T locs C X N eT).thru fun t q => XS.aloadN X.here C.1 rfl (hb C.2.1 hd) hl hv q
theorem astore {i : Nat} {v : Value} (hd : decode bs pc = .ok (.astore i, 2)) (hv : v.isRef = true) (hl : storeLocals L i v = some L') (hp : pc + 2 = pc') (kt : Go l Z R y bs ml ret n0 Q h k n pc' L' St) : Go l Z R y bs ml ret n0 Q h k n pc L (v :: St) := by
  subst hp
  intro p e s m args below meth c T locs C X N eT
  exact (kt p e s m args below meth c T locs C X N eT).thru fun t q => XS.astore X.here C.1 rfl (hb C.2.1 hd) rfl hv hl q
theorem astoreN {i : Fin 4} {v : Value} (hd : decode bs pc = .ok (.astore_n i, 1)) (hv : v.isRef = true) (hl : storeLocals L i.val v = some L') (hp : pc + 1 = pc') (kt : Go l Z R y bs ml ret n0 Q h k n pc' L' St) : Go l Z R y bs ml ret n0 Q h k n pc L (v :: St) := by
  subst hp
  intro p e s m args below meth c T locs C X N eT
  exact (kt p e s m args below meth c T locs C X N eT).thru fun t q => XS.astoreN X.here C.1 rfl (hb C.2.1 hd) rfl hv hl q
theorem iconst {i : Int} {v : Int32} (hd : decode bs pc = .ok (.iconst i, 1)) (hv : Int32.ofInt i = v) (hp : pc + 1 = pc') (kt : Go l Z R y bs ml ret n0 Q h k n pc' L (.int v :: St)) : Go l Z R y bs ml ret n0 Q h k n pc L St := by
  subst hp hv
  intro p e s m args below meth c T locs C X N eT
  exact (kt p e s m args below meth c T locs C X N eT).thru fun t q => XS.iconst X.here C.1 rfl (hb C.2.1 hd) q
theorem bipush {i : Int} {v : Int32} (hd : decode bs pc = .ok (.bipush i, 2)) (hv : (Int8.ofInt i).toInt32 = v) (hp : pc + 2 = pc') (kt : Go l Z R y bs ml ret n0 Q h k n pc' L (.int v :: St)) : Go l Z R y bs ml ret n0 Q h k n pc L St := by
  subst hp hv
  intro p e s m args below meth c T locs C X N eT
  exact (kt p e s m args below meth c T locs C X N eT).thru fun t q => XS.bipush X.here C.1 rfl (hb C.2.1 hd) q
theorem sipush {i : Int} {v : Int32} (hd : decode bs pc = .ok (.sipush i, 3)) (hv : (Int16.ofInt i).toInt32 = v) (hp : pc + 3 = pc') (kt : Go l Z R y bs ml ret n0 Q h k n pc' L (.int v :: St)) : Go l Z R y bs ml ret n0 Q h k n pc L St := by
  subst hp hv
  intro p e s m args below meth c T locs C X N eT
  exact (kt p e s m args below meth c T locs C X N eT).thru fun t q => XS.sipush X.here C.1 rfl (hb C.2.1 hd) q
theorem aconstNull  (hd : decode bs pc = .ok (.aconst_null, 1)) (hp : pc + 1 = pc') (kt : Go l Z R y bs ml ret n0 Q h k n pc' L (.null :: St)) : Go l Z R y bs ml ret n0 Q h k n pc L St := by
  subst hp
  intro p e s m args below meth c T locs C X N eT
  exact (kt p e s m args below meth c T locs C X N eT).thru fun t q => XS.aconstNull X.here C.1 rfl (hb C.2.1 hd) q
theorem iadd {x z : Int32} (hd : decode bs pc = .ok (.iadd, 1)) (hp : pc + 1 = pc') (kt : Go l Z R y bs ml ret n0 Q h k n pc' L (.int (x + z) :: St)) : Go l Z R y bs ml ret n0 Q h k n pc L (.int z :: .int x :: St) := by
  subst hp
  intro p e s m args below meth c T locs C X N eT
  exact (kt p e s m args below meth c T locs C X N eT).thru fun t q => XS.iadd X.here C.1 rfl (hb C.2.1 hd) rfl q
theorem isub {x z : Int32} (hd : decode bs pc = .ok (.isub, 1)) (hp : pc + 1 = pc') (kt : Go l Z R y bs ml ret n0 Q h k n pc' L (.int (x - z) :: St)) : Go l Z R y bs ml ret n0 Q h k n pc L (.int z :: .int x :: St) := by
  subst hp
  intro p e s m args below meth c T locs C X N eT
  exact (kt p e s m args below meth c T locs C X N eT).thru fun t q => XS.isub X.here C.1 rfl (hb C.2.1 hd) rfl q
theorem imul {x z : Int32} (hd : decode bs pc = .ok (.imul, 1)) (hp : pc + 1 = pc') (kt : Go l Z R y bs ml ret n0 Q h k n pc' L (.int (x * z) :: St)) : Go l Z R y bs ml ret n0 Q h k n pc L (.int z :: .int x :: St) := by
  subst hp
  intro p e s m args below meth c T locs C X N eT
  exact (kt p e s m args below meth c T locs C X N eT).thru fun t q => XS.imul X.here C.1 rfl (hb C.2.1 hd) rfl q
theorem iand {x z : Int32} (hd : decode bs pc = .ok (.iand, 1)) (hp : pc + 1 = pc') (kt : Go l Z R y bs ml ret n0 Q h k n pc' L (.int (x &&& z) :: St)) : Go l Z R y bs ml ret n0 Q h k n pc L (.int z :: .int x :: St) := by
  subst hp
  intro p e s m args below meth c T locs C X N eT
  exact (kt p e s m args below meth c T locs C X N eT).thru fun t q => XS.iand X.here C.1 rfl (hb C.2.1 hd) rfl q
theorem ior {x z : Int32} (hd : decode bs pc = .ok (.ior, 1)) (hp : pc + 1 = pc') (kt : Go l Z R y bs ml ret n0 Q h k n pc' L (.int (x ||| z) :: St)) : Go l Z R y bs ml ret n0 Q h k n pc L (.int z :: .int x :: St) := by
  subst hp
  intro p e s m args below meth c T locs C X N eT
  exact (kt p e s m args below meth c T locs C X N eT).thru fun t q => XS.ior X.here C.1 rfl (hb C.2.1 hd) rfl q
theorem ixor {x z : Int32} (hd : decode bs pc = .ok (.ixor, 1)) (hp : pc + 1 = pc') (kt : Go l Z R y bs ml ret n0 Q h k n pc' L (.int (x ^^^ z) :: St)) : Go l Z R y bs ml ret n0 Q h k n pc L (.int z :: .int x :: St) := by
  subst hp
  intro p e s m args below meth c T locs C X N eT
  exact (kt p e s m args below meth c T locs C X N eT).thru fun t q => XS.ixor X.here C.1 rfl (hb C.2.1 hd) rfl q
theorem ishl {x z : Int32} (hd : decode bs pc = .ok (.ishl, 1)) (hp : pc + 1 = pc') (kt : Go l Z R y bs ml ret n0 Q h k n pc' L (.int (x <<< (z &&& 31)) :: St)) : Go l Z R y bs ml ret n0 Q h k n pc L (.int z :: .int x :: St) := by
  subst hp
  intro p e s m args below meth c T locs C X N eT
  exact (kt p e s m args below meth c T locs C X N eT).thru fun t q => XS.ishl X.here C.1 rfl (hb C.2.1 hd) rfl q
theorem ishr {x z : Int32} (hd : decode bs pc = .ok (.ishr, 1)) (hp : pc + 1 = pc') (kt : Go l Z R y bs ml ret n0 Q h k n pc' L (.int (x >>> (z &&& 31)) :: St)) : Go l Z R y bs ml ret n0 Q h k n pc L (.int z :: .int x :: St) := by
  subst hp
  intro p e s m args below meth c T locs C X N eT
  exact (kt p e s m args below meth c T locs C X N eT).thru fun t q => XS.ishr X.here C.1 rfl (hb C.2.1 hd) rfl q
theorem iushr {x z : Int32} (hd : decode bs pc = .ok (.iushr, 1)) (hp : pc + 1 = pc') (kt : Go l Z R y bs ml ret n0 Q h k n pc' L (.int ((x.toUInt32 >>> (z &&& 31).toUInt32).toInt32) :: St)) : Go l Z R y bs ml ret n0 Q h k n pc L (.int z :: .int x :: St) := by
  subst hp
  intro p e s m args below meth c T locs C X N eT
  exact (kt p e s m args below meth c T locs C X N eT).thru fun t q => XS.iushr X.here C.1 rfl (hb C.2.1 hd) rfl q
theorem ladd {x z : Int64} (hd : decode bs pc = .ok (.ladd, 1)) (hp : pc + 1 = pc') (kt : Go l Z R y bs ml ret n0 Q h k n pc' L (.long (x + z) :: St)) : Go l Z R y bs ml ret n0 Q h k n pc L (.long z :: .long x :: St) := by
  subst hp
  intro p e s m args below meth c T locs C X N eT
  exact (kt p e s m args below meth c T locs C X N eT).thru fun t q => XS.ladd X.here C.1 rfl (hb C.2.1 hd) rfl q
theorem lsub {x z : Int64} (hd : decode bs pc = .ok (.lsub, 1)) (hp : pc + 1 = pc') (kt : Go l Z R y bs ml ret n0 Q h k n pc' L (.long (x - z) :: St)) : Go l Z R y bs ml ret n0 Q h k n pc L (.long z :: .long x :: St) := by
  subst hp
  intro p e s m args below meth c T locs C X N eT
  exact (kt p e s m args below meth c T locs C X N eT).thru fun t q => XS.lsub X.here C.1 rfl (hb C.2.1 hd) rfl q
theorem lmul {x z : Int64} (hd : decode bs pc = .ok (.lmul, 1)) (hp : pc + 1 = pc') (kt : Go l Z R y bs ml ret n0 Q h k n pc' L (.long (x * z) :: St)) : Go l Z R y bs ml ret n0 Q h k n pc L (.long z :: .long x :: St) := by
  subst hp
  intro p e s m args below meth c T locs C X N eT
  exact (kt p e s m args below meth c T locs C X N eT).thru fun t q => XS.lmul X.here C.1 rfl (hb C.2.1 hd) rfl q
theorem land {x z : Int64} (hd : decode bs pc = .ok (.land, 1)) (hp : pc + 1 = pc') (kt : Go l Z R y bs ml ret n0 Q h k n pc' L (.long (x &&& z) :: St)) : Go l Z R y bs ml ret n0 Q h k n pc L (.long z :: .long x :: St) := by
  subst hp
  intro p e s m args below meth c T locs C X N eT
  exact (kt p e s m args below meth c T locs C X N eT).thru fun t q => XS.land X.here C.1 rfl (hb C.2.1 hd) rfl q
theorem lor {x z : Int64} (hd : decode bs pc = .ok (.lor, 1)) (hp : pc + 1 = pc') (kt : Go l Z R y bs ml ret n0 Q h k n pc' L (.long (x ||| z) :: St)) : Go l Z R y bs ml ret n0 Q h k n pc L (.long z :: .long x :: St) := by
  subst hp
  intro p e s m args below meth c T locs C X N eT
  exact (kt p e s m args below meth c T locs C X N eT).thru fun t q => XS.lor X.here C.1 rfl (hb C.2.1 hd) rfl q
theorem lxor {x z : Int64} (hd : decode bs pc = .ok (.lxor, 1)) (hp : pc + 1 = pc') (kt : Go l Z R y bs ml ret n0 Q h k n pc' L (.long (x ^^^ z) :: St)) : Go l Z R y bs ml ret n0 Q h k n pc L (.long z :: .long x :: St) := by
  subst hp
  intro p e s m args below meth c T locs C X N eT
  exact (kt p e s m args below meth c T locs C X N eT).thru fun t q => XS.lxor X.here C.1 rfl (hb C.2.1 hd) rfl q
theorem lshl {x : Int64} {z : Int32} (hd : decode bs pc = .ok (.lshl, 1)) (hp : pc + 1 = pc') (kt : Go l Z R y bs ml ret n0 Q h k n pc' L (.long (x <<< (z &&& 0x3f).toInt64) :: St)) : Go l Z R y bs ml ret n0 Q h k n pc L (.int z :: .long x :: St) := by
  subst hp
  intro p e s m args below meth c T locs C X N eT
  exact (kt p e s m args below meth c T locs C X N eT).thru fun t q => XS.lshl X.here C.1 rfl (hb C.2.1 hd) rfl q
theorem lshr {x : Int64} {z : Int32} (hd : decode bs pc = .ok (.lshr, 1)) (hp : pc + 1 = pc') (kt : Go l Z R y bs ml ret n0 Q h k n pc' L (.long (x >>> (z &&& 0x3f).toInt64) :: St)) : Go l Z R y bs ml ret n0 Q h k n pc L (.int z :: .long x :: St) := by
  subst hp
  intro p e s m args below meth c T locs C X N eT
  exact (kt p e s m args below meth c T locs C X N eT).thru fun t q => XS.lshr X.here C.1 rfl (hb C.2.1 hd) rfl q
theorem lushr {x : Int64} {z : Int32} (hd : decode bs pc = .ok (.lushr, 1)) (hp : pc + 1 = pc') (kt : Go l Z R y bs ml ret n0 Q h k n pc' L (.long ((x.toUInt64 >>> (z &&& 0x3f).toInt64.toUInt64).toInt64) :: St)) : Go l Z R y bs ml ret n0 Q h k n pc L (.int z :: .long x :: St) := by
  subst hp
  intro p e s m args below meth c T locs C X N eT
  exact (kt p e s m args below meth c T locs C X N eT).thru fun t q => XS.lushr X.here C.1 rfl (hb C.2.1 hd) rfl q
theorem ineg {x : Int32} (hd : decode bs pc = .ok (.ineg, 1)) (hp : pc + 1 = pc') (kt : Go l Z R y bs ml ret n0 Q h k n pc' L (.int (-x) :: St)) : Go l Z R y bs ml ret n0 Q h k n pc L (.int x :: St) := by
  subst hp
  intro p e s m args below meth c T locs C X N eT
  exact (kt p e s m args below meth c T locs C X N eT).thru fun t q => XS.ineg X.here C.1 rfl (hb C.2.1 hd) rfl q
theorem lneg {x : Int64} (hd : decode bs pc = .ok (.lneg, 1)) (hp : pc + 1 = pc') (kt : Go l Z R y bs ml ret n0 Q h k n pc' L (.long (-x) :: St)) : Go l Z R y bs ml ret n0 Q h k n pc L (.long x :: St) := by
  subst hp
  intro p e s m args below meth c T locs C X N eT
  exact (kt p e s m args below meth c T locs C X N eT).thru fun t q => XS.lneg X.here C.1 rfl (hb C.2.1 hd) rfl q
theorem i2l {x : Int32} (hd : decode bs pc = .ok (.i2l, 1)) (hp : pc + 1 = pc') (kt : Go l Z R y bs ml ret n0 Q h k n pc' L (.long (x.toInt64) :: St)) : Go l Z R y bs ml ret n0 Q h k n pc L (.int x :: St) := by
  subst hp
  intro p e s m args below meth c T locs C X N eT
  exact (kt p e s m args below meth c T locs C X N eT).thru fun t q => XS.i2l X.here C.1 rfl (hb C.2.1 hd) rfl q
theorem l2i {x : Int64} (hd : decode bs pc = .ok (.l2i, 1)) (hp : pc + 1 = pc') (kt : Go l Z R y bs ml ret n0 Q h k n pc' L (.int (x.toInt32) :: St)) : Go l Z R y bs ml ret n0 Q h k n pc L (.long x :: St) := by
  subst hp
  intro p e s m args below meth c T locs C X N eT
  exact (kt p e s m args below meth c T locs C X N eT).thru fun t q => XS.l2i X.here C.1 rfl (hb C.2.1 hd) rfl q
theorem i2b {x : Int32} (hd : decode bs pc = .ok (.i2b, 1)) (hp : pc + 1 = pc') (kt : Go l Z R y bs ml ret n0 Q h k n pc' L (.int (x.toInt8.toInt32) :: St)) : Go l Z R y bs ml ret n0 Q h k n pc L (.int x :: St) := by
  subst hp
  intro p e s m args below meth c T locs C X N eT
  exact (kt p e s m args below meth c T locs C X N eT).thru fun t q => XS.i2b X.here C.1 rfl (hb C.2.1 hd) rfl q
theorem i2s {x : Int32} (hd : decode bs pc = .ok (.i2s, 1)) (hp : pc + 1 = pc') (kt : Go l Z R y bs ml ret n0 Q h k n pc' L (.int (x.toInt16.toInt32) :: St)) : Go l Z R y bs ml ret n0 Q h k n pc L (.int x :: St) := by
  subst hp
  intro p e s m args below meth c T locs C X N eT
  exact (kt p e s m args below meth c T locs C X N eT).thru fun t q => XS.i2s X.here C.1 rfl (hb C.2.1 hd) rfl q
theorem i2c {x : Int32} (hd : decode bs pc = .ok (.i2c, 1)) (hp : pc + 1 = pc') (kt : Go l Z R y bs ml ret n0 Q h k n pc' L (.int (x.toUInt32.toUInt16.toUInt32.toInt32) :: St)) : Go l Z R y bs ml ret n0 Q h k n pc L (.int x :: St) := by
  subst hp
  intro p e s m args below meth c T locs C X N eT
  exact (kt p e s m args below meth c T locs C X N eT).thru fun t q => XS.i2c X.here C.1 rfl (hb C.2.1 hd) rfl q
theorem lcmp {x z : Int64} (hd : decode bs pc = .ok (.lcmp, 1)) (hp : pc + 1 = pc') (kt : Go l Z R y bs ml ret n0 Q h k n pc' L (.int (lcmpW x z) :: St)) : Go l Z R y bs ml ret n0 Q h k n pc L (.long z :: .long x :: St) := by
  subst hp
  intro p e s m args below meth c T locs C X N eT
  exact (kt p e s m args below meth c T locs C X N eT).thru fun t q => XS.lcmp X.here C.1 rfl (hb C.2.1 hd) rfl q
theorem idiv {x z : Int32} (hd : decode bs pc = .ok (.idiv, 1)) (hz : z ≠ 0) (hp : pc + 1 = pc') (kt : Go l Z R y bs ml ret n0 Q h k n pc' L (.int (x / z) :: St)) : Go l Z R y bs ml ret n0 Q h k n pc L (.int z :: .int x :: St) := by
  subst hp
  intro p e s m args below meth c T locs C X N eT
  exact (kt p e s m args below meth c T locs C X N eT).thru fun t q => XS.idiv X.here C.1 rfl (hb C.2.1 hd) rfl hz q
theorem irem {x z : Int32} (hd : decode bs pc = .ok (.irem, 1)) (hz : z ≠ 0) (hp : pc + 1 = pc') (kt : Go l Z R y bs ml ret n0 Q h k n pc' L (.int (x % z) :: St)) : Go l Z R y bs ml ret n0 Q h k n pc L (.int z :: .int x :: St) := by
  subst hp
  intro p e s m args below meth c T locs C X N eT
  exact (kt p e s m args below meth c T locs C X N eT).thru fun t q => iremM X C.1 rfl (hb C.2.1 hd) rfl hz q
theorem lrem {x z : Int64} (hd : decode bs pc = .ok (.lrem, 1)) (hz : z ≠ 0) (hp : pc + 1 = pc') (kt : Go l Z R y bs ml ret n0 Q h k n pc' L (.long (x % z) :: St)) : Go l Z R y bs ml ret n0 Q h k n pc L (.long z :: .long x :: St) := by
  subst hp
  rw [← lrem_mod] at kt
  intro p e s m args below meth c T locs C X N eT
  exact (kt p e s m args below meth c T locs C X N eT).thru fun t q => XS.lrem X.here C.1 rfl (hb C.2.1 hd) rfl hz q
theorem ldiv {x z : Int64} (hd : decode bs pc = .ok (.ldiv, 1)) (hz : z ≠ 0) (hp : pc + 1 = pc') (kt : Go l Z R y bs ml ret n0 Q h k n pc' L (.long (x / z) :: St)) : Go l Z R y bs ml ret n0 Q h k n pc L (.long z :: .long x :: St) := by
  subst hp
  intro p e s m args below meth c T locs C X N eT
  exact (kt p e s m args below meth c T locs C X N eT).thru fun t q => XS.ldiv X.here C.1 rfl (hb C.2.1 hd) rfl hz q
theorem dup {v : Value} (hd : decode bs pc = .ok (.dup, 1)) (hc : v.category = 1) (hp : pc + 1 = pc') (kt : Go l Z R y bs ml ret n0 Q h k n pc' L (v :: v :: St)) : Go l Z R y bs ml ret n0 Q h k n pc L (v :: St) := by
  subst hp
  intro p e s m args below meth c T locs C X N eT
  exact (kt p e s m args below meth c T locs C X N eT).thru fun t q => XS.dup X.here C.1 rfl (hb C.2.1 hd) rfl hc q
theorem pop {v : Value} (hd : decode bs pc = .ok (.pop, 1)) (hc : v.category = 1) (hp : pc + 1 = pc') (kt : Go l Z R y bs ml ret n0 Q h k n pc' L St) : Go l Z R y bs ml ret n0 Q h k n pc L (v :: St) := by
  subst hp
  intro p e s m args below meth c T locs C X N eT
  exact (kt p e s m args below meth c T locs C X N eT).thru fun t q => XS.pop X.here C.1 rfl (hb C.2.1 hd) rfl hc q
theorem dupX1 {v w : Value} (hd : decode bs pc = .ok (.dup_x1, 1)) (hc : v.category = 1) (hw : w.category = 1) (hp : pc + 1 = pc') (kt : Go l Z R y bs ml ret n0 Q h k n pc' L (v :: w :: v :: St)) : Go l Z R y bs ml ret n0 Q h k n pc L (v :: w :: St) := by
  subst hp
  intro p e s m args below meth c T locs C X N eT
  exact (kt p e s m args below meth c T locs C X N eT).thru fun t q => XS.dupX1 X.here C.1 rfl (hb C.2.1 hd) rfl hc hw q
theorem dup2 {v w : Value} (hd : decode bs pc = .ok (.dup2, 1)) (hc : v.category = 1) (hw : w.category = 1) (hp : pc + 1 = pc') (kt : Go l Z R y bs ml ret n0 Q h k n pc' L (v :: w :: v :: w :: St)) : Go l Z R y bs ml ret n0 Q h k n pc L (v :: w :: St) := by
  subst hp
  intro p e s m args below meth c T locs C X N eT
  exact (kt p e s m args below meth c T locs C X N eT).thru fun t q => XT.dup2 X.here C.1 rfl (hb C.2.1 hd) rfl hc hw q
theorem dup2L {x : Int64} (hd : decode bs pc = .ok (.dup2, 1)) (hp : pc + 1 = pc') (kt : Go l Z R y bs ml ret n0 Q h k n pc' L (.long x :: .long x :: St)) : Go l Z R y bs ml ret n0 Q h k n pc L (.long x :: St) := by
  subst hp
  intro p e s m args below meth c T locs C X N eT
  exact (kt p e s m args below meth c T locs C X N eT).thru fun t q => XT.dup2L X.here C.1 rfl (hb C.2.1 hd) rfl q
theorem lconst {i : Fin 2} {v : Int64} (hd : decode bs pc = .ok (.lconst i, 1)) (hv : Int64.ofNat i.val = v) (hp : pc + 1 = pc') (kt : Go l Z R y bs ml ret n0 Q h k n pc' L (.long v :: St)) : Go l Z R y bs ml ret n0 Q h k n pc L St := by
  subst hp hv
  intro p e s m args below meth c T locs C X N eT
  exact (kt p e s m args below meth c T locs C X N eT).thru fun t q => XS.lconst X.here C.1 rfl (hb C.2.1 hd) q
theorem iinc {i : Nat} {cst : Int} {x d : Int32} (hd : decode bs pc = .ok (.iinc i cst, 3)) (hl : L[i]? = some (.val (.int x))) (hv : Int32.ofInt cst = d) (hs : storeLocals L i (.int (x + d)) = some L') (hp : pc + 3 = pc') (kt : Go l Z R y bs ml ret n0 Q h k n pc' L' St) : Go l Z R y bs ml ret n0 Q h k n pc L St := by
  subst hp hv
  intro p e s m args below meth c T locs C X N eT
  exact (kt p e s m args below meth c T locs C X N eT).thru fun t q => XS.iinc X.here C.1 rfl (hb C.2.1 hd) hl hs q
theorem goto {o : Int} (hd : decode bs pc = .ok (.goto o, 3)) (ho : 0 ≤ (pc : Int) + o) (hp : ((pc : Int) + o).toNat = pc') (kt : Go l Z R y bs ml ret n0 Q h k n pc' L St) : Go l Z R y bs ml ret n0 Q h k n pc L St := by
  intro p e s m args below meth c T locs C X N eT
  exact (kt p e s m args below meth c T locs C X N eT).thru fun t q => XS.goto X.here C.1 rfl rfl (hb C.2.1 hd) ho hp q
theorem icmpY {cd : ClassFile.Cond} {o : Int} {x z : Int32} (hd : decode bs pc = .ok (.if_icmp cd o, 3)) (hc : if_icmp.holds cd x z = true) (ho : 0 ≤ (pc : Int) + o) (hp : ((pc : Int) + o).toNat = pc') (kt : Go l Z R y bs ml ret n0 Q h k n pc' L St) : Go l Z R y bs ml ret n0 Q h k n pc L (.int z :: .int x :: St) := by
  intro p e s m args below meth c T locs C X N eT
  exact (kt p e s m args below meth c T locs C X N eT).thru fun t q => XS.icmpYes X.here C.1 rfl rfl (hb C.2.1 hd) rfl hc ho hp q
theorem icmpN {cd : ClassFile.Cond} {o : Int} {x z : Int32} (hd : decode bs pc = .ok (.if_icmp cd o, 3)) (hc : if_icmp.holds cd x z = false) (hp : pc + 3 = pc') (kt : Go l Z R y bs ml ret n0 Q h k n pc' L St) : Go l Z R y bs ml ret n0 Q h k n pc L (.int z :: .int x :: St) := by
  subst hp
  intro p e s m args below meth c T locs C X N eT
  exact (kt p e s m args below meth c T locs C X N eT).thru fun t q => XS.icmpNo X.here C.1 rfl (hb C.2.1 hd) rfl hc q
theorem ifcY {cd : ClassFile.Cond} {o : Int} {x : Int32} (hd : decode bs pc = .ok (.ifCond cd o, 3)) (hc : ifCond.holds cd x = true) (ho : 0 ≤ (pc : Int) + o) (hp : ((pc : Int) + o).toNat = pc') (kt : Go l Z R y bs ml ret n0 Q h k n pc' L St) : Go l Z R y bs ml ret n0 Q h k n pc L (.int x :: St) := by
  intro p e s m args below meth c T locs C X N eT
  exact (kt p e s m args below meth c T locs C X N eT).thru fun t q => XS.ifYes X.here C.1 rfl rfl (hb C.2.1 hd) rfl hc ho hp q
theorem ifcN {cd : ClassFile.Cond} {o : Int} {x : Int32} (hd : decode bs pc = .ok (.ifCond cd o, 3)) (hc : ifCond.holds cd x = false) (hp : pc + 3 = pc') (kt : Go l Z R y bs ml ret n0 Q h k n pc' L St) : Go l Z R y bs ml ret n0 Q h k n pc L (.int x :: St) := by
  subst hp
  intro p e s m args below meth c T locs C X N eT
  exact (kt p e s m args below meth c T locs C X N eT).thru fun t q => XS.ifNo X.here C.1 rfl (hb C.2.1 hd) rfl hc q
theorem ifnullY {o : Int}  (hd : decode bs pc = .ok (.ifnull o, 3)) (ho : 0 ≤ (pc : Int) + o) (hp : ((pc : Int) + o).toNat = pc') (kt : Go l Z R y bs ml ret n0 Q h k n pc' L St) : Go l Z R y bs ml ret n0 Q h k n pc L (.null :: St) := by
  intro p e s m args below meth c T locs C X N eT
  exact (kt p e s m args below meth c T locs C X N eT).thru fun t q => XS.ifnullYes X.here C.1 rfl rfl (hb C.2.1 hd) rfl ho hp q
theorem ifnullN {o : Int} {b : Addr} (hd : decode bs pc = .ok (.ifnull o, 3)) (hp : pc + 3 = pc') (kt : Go l Z R y bs ml ret n0 Q h k n pc' L St) : Go l Z R y bs ml ret n0 Q h k n pc L (.ref b :: St) := by
  subst hp
  intro p e s m args below meth c T locs C X N eT
  exact (kt p e s m args below meth c T locs C X N eT).thru fun t q => XS.ifnullNo X.here C.1 rfl (hb C.2.1 hd) rfl q
theorem ifnonnullY {o : Int} {b : Addr} (hd : decode bs pc = .ok (.ifnonnull o, 3)) (ho : 0 ≤ (pc : Int) + o) (hp : ((pc : Int) + o).toNat = pc') (kt : Go l Z R y bs ml ret n0 Q h k n pc' L St) : Go l Z R y bs ml ret n0 Q h k n pc L (.ref b :: St) := by
  intro p e s m args below meth c T locs C X N eT
  exact (kt p e s m args below meth c T locs C X N eT).thru fun t q => XS.ifnonnullYes X.here C.1 rfl rfl (hb C.2.1 hd) rfl ho hp q
theorem ifnonnullN {o : Int}  (hd : decode bs pc = .ok (.ifnonnull o, 3)) (hp : pc + 3 = pc') (kt : Go l Z R y bs ml ret n0 Q h k n pc' L St) : Go l Z R y bs ml ret n0 Q h k n pc L (.null :: St) := by
  subst hp
  intro p e s m args below meth c T locs C X N eT
  exact (kt p e s m args below meth c T locs C X N eT).thru fun t q => XS.ifnonnullNo X.here C.1 rfl (hb C.2.1 hd) rfl q
theorem acmp {cd : ACond} {o : Int} {x z : Value} {same : Bool} (hd : decode bs pc = .ok (.if_acmp cd o, 3)) (h1 : x.isRef = true) (h2 : z.isRef = true) (hq : decide (x = z) = same) (ho : 0 ≤ (pc : Int) + o) (hp : pc' = if acV cd same = true then ((pc : Int) + o).toNat else pc + 3) (kt : Go l Z R y bs ml ret n0 Q h k n pc' L St) : Go l Z R y bs ml ret n0 Q h k n pc L (z :: x :: St) := by
  intro p e s m args below meth c T locs C X N eT
  exact (kt p e s m args below meth c T locs C X N eT).thru fun t q => Jvm.RoadKit.acmp (g := mkF m pc L (z :: x :: St)) X C.1 rfl h1 h2 rfl (hb C.2.1 hd) rfl hq ho hp q
theorem pop2J {x : Int64} (hd : decode bs pc = .ok (.pop2, 1)) (hp : pc + 1 = pc') (kt : Go l Z R y bs ml ret n0 Q h k n pc' L St) : Go l Z R y bs ml ret n0 Q h k n pc L (.long x :: St) := by
  subst hp
  intro p e s m args below meth c T locs C X N eT
  have hx := C.1
  have hd' := hb C.2.1 hd
  refine (kt p e s m args below meth c T locs C X N eT).thru fun t q => ?_
  show Steps p.tables e below (T.setTop { method := m, pc := pc, locals := L, stack := .long x :: St, locked := none }) t
  jvm_step X.here [X.here.top, hx, hd', Value.category]
  exact q
theorem tswIn {dflt low high : Int} {offs : Array Int} {len : Nat} {o : Int} {i : Int32} (hd : decode bs pc = .ok (.tableswitch dflt low high offs, len)) (hin : ¬ (i.toInt < low ∨ i.toInt > high)) (hoff : offs[(i.toInt - low).toNat]? = some o) (ho : 0 ≤ (pc : Int) + o) (hp : ((pc : Int) + o).toNat = pc') (kt : Go l Z R y bs ml ret n0 Q h k n pc' L St) : Go l Z R y bs ml ret n0 Q h k n pc L (.int i :: St) := by
  intro p e s m args below meth c T locs C X N eT
  exact (kt p e s m args below meth c T locs C X N eT).thru fun t q => XS.tswIn X.here C.1 rfl rfl (hb C.2.1 hd) rfl hin hoff ho hp q
theorem tswOut {dflt low high : Int} {offs : Array Int} {len : Nat} {i : Int32} (hd : decode bs pc = .ok (.tableswitch dflt low high offs, len)) (hout : i.toInt < low ∨ i.toInt > high) (ho : 0 ≤ (pc : Int) + dflt) (hp : ((pc : Int) + dflt).toNat = pc') (kt : Go l Z R y bs ml ret n0 Q h k n pc' L St) : Go l Z R y bs ml ret n0 Q h k n pc L (.int i :: St) := by
  intro p e s m args below meth c T locs C X N eT
  exact (kt p e s m args below meth c T locs C X N eT).thru fun t q => XS.tswOut X.here C.1 rfl rfl (hb C.2.1 hd) rfl hout ho hp q
theorem ret0 (hd : decode bs pc = .ok (.return_, 1)) (hr : ret = none) (hk : k ≤ R.cells) (hn : n ≤ R.slots) (hQ : Q none h) : Go l Z R y bs ml ret n0 Q h k n pc L [] := by
  intro p e s m args below meth c T locs C X N eT
  have hret := C.2.2.2.2.2.1.trans hr
  obtain ⟨fs, hl, hrun, hended, hW, hsame⟩ := X.leave (v := none) (fun _ => rfl) C.2.2.2.2.2.2.1
  exact ⟨_, _, X.returnOut C.1 hret (hb C.2.1 hd) hl, hrun, hended, _, _, rfl, ⟨by show Q none T.heap; rw [eT]; exact hQ, N⟩, ⟨_, rfl⟩, hW, hsame.mono hk hn⟩
theorem retN {t : FieldType} {x x' : Int32} (hd : decode bs pc = .ok (.ireturn, 1)) (hr : ret = some t) (ht : t = .boolean ∨ t = .byte ∨ t = .char ∨ t = .short) (hx : nar t x = x') (hk : k ≤ R.cells) (hn : n ≤ R.slots) (hQ : Q (some (.int x')) h) : Go l Z R y bs ml ret n0 Q h k n pc L (.int x :: St) := by
  intro p e s m args below meth c T locs C X N eT
  have hret := C.2.2.2.2.2.1.trans hr
  subst hx
  obtain ⟨fs, hl, hrun, hended, hW, hsame⟩ := X.leave (v := some (.int (nar t x))) (fun q => by rw [hret] at q; cases q) C.2.2.2.2.2.2.1
  exact ⟨_, _, Jvm.RoadKit.retN X C.1 hret ht (hb C.2.1 hd) hl, hrun, hended, _, _, rfl, ⟨by show Q _ T.heap; rw [eT]; exact hQ, N⟩, ⟨_, rfl⟩, hW, hsame.mono hk hn⟩
theorem retI {x : Int32} (hd : decode bs pc = .ok (.ireturn, 1)) (hr : ret = some .int) (hk : k ≤ R.cells) (hn : n ≤ R.slots) (hQ : Q (some (.int x)) h) : Go l Z R y bs ml ret n0 Q h k n pc L (.int x :: St) := by
  intro p e s m args below meth c T locs C X N eT
  have hret := C.2.2.2.2.2.1.trans hr
  obtain ⟨fs, hl, hrun, hended, hW, hsame⟩ := X.leave (v := some (.int x)) (fun q => by rw [hret] at q; cases q) C.2.2.2.2.2.2.1
  exact ⟨_, _, Jvm.RoadKit.retOut X C.1 hret rfl (Or.inl ⟨rfl, Or.inl rfl, _, rfl⟩) (hb C.2.1 hd) hl, hrun, hended, _, _, rfl, ⟨by show Q _ T.heap; rw [eT]; exact hQ, N⟩, ⟨_, rfl⟩, hW, hsame.mono hk hn⟩
theorem retJ {x : Int64} (hd : decode bs pc = .ok (.lreturn, 1)) (hr : ret = some .long) (hk : k ≤ R.cells) (hn : n ≤ R.slots) (hQ : Q (some (.long x)) h) : Go l Z R y bs ml ret n0 Q h k n pc L (.long x :: St) := by
  intro p e s m args below meth c T locs C X N eT
  have hret := C.2.2.2.2.2.1.trans hr
  obtain ⟨fs, hl, hrun, hended, hW, hsame⟩ := X.leave (v := some (.long x)) (fun q => by rw [hret] at q; cases q) C.2.2.2.2.2.2.1
  exact ⟨_, _, Jvm.RoadKit.retOut X C.1 hret rfl (Or.inr (Or.inl ⟨rfl, rfl, _, rfl⟩)) (hb C.2.1 hd) hl, hrun, hended, _, _, rfl, ⟨by show Q _ T.heap; rw [eT]; exact hQ, N⟩, ⟨_, rfl⟩, hW, hsame.mono hk hn⟩
theorem retD {x : UInt64} (hd : decode bs pc = .ok (.dreturn, 1)) (hr : ret = some .double) (hk : k ≤ R.cells) (hn : n ≤ R.slots) (hQ : Q (some (.double x)) h) : Go l Z R y bs ml ret n0 Q h k n pc L (.double x :: St) := by
  intro p e s m args below meth c T locs C X N eT
  have hret := C.2.2.2.2.2.1.trans hr
  obtain ⟨fs, hl, hrun, hended, hW, hsame⟩ := X.leave (v := some (.double x)) (fun q => by rw [hret] at q; cases q) C.2.2.2.2.2.2.1
  exact ⟨_, _, Jvm.RoadKit.retOut X C.1 hret rfl (Or.inr (Or.inr (Or.inl ⟨rfl, rfl, _, rfl⟩))) (hb C.2.1 hd) hl, hrun, hended, _, _, rfl, ⟨by show Q _ T.heap; rw [eT]; exact hQ, N⟩, ⟨_, rfl⟩, hW, hsame.mono hk hn⟩
theorem retA {t : FieldType} {v : Value} (hd : decode bs pc = .ok (.areturn, 1)) (hr : ret = some t) (ht : t.isReference = true) (hv : v.isRef = true) (hk : k ≤ R.cells) (hn : n ≤ R.slots) (hQ : Q (some v) h) : Go l Z R y bs ml ret n0 Q h k n pc L (v :: St) := by
  intro p e s m args below meth c T locs C X N eT
  have hret := C.2.2.2.2.2.1.trans hr
  obtain ⟨fs, hl, hrun, hended, hW, hsame⟩ := X.leave (v := some v) (fun q => by rw [hret] at q; cases q) C.2.2.2.2.2.2.1
  have hna : narrow t v = v := by rcases ref_cases hv with rfl | ⟨a, rfl⟩ <;> cases t <;> first | rfl | (cases ht)
  exact ⟨_, _, Jvm.RoadKit.retOut X C.1 hret hna (Or.inr (Or.inr (Or.inr (Or.inr ⟨rfl, ht, hv⟩)))) (hb C.2.1 hd) hl, hrun, hended, _, _, rfl, ⟨by show Q _ T.heap; rw [eT]; exact hQ, N⟩, ⟨_, rfl⟩, hW, hsame.mono hk hn⟩
theorem ldcI {index : Nat} {v : Int32} (hd : decode bs pc = .ok (.ldc index, 2)) (w : (Cond.constant y.cls index v).before a0 Z = true) (hp : pc + 2 = pc') (kt : Go l Z R y bs ml ret n0 Q h k n pc' L (.int v :: St)) : Go l Z R y bs ml ret n0 Q h k n pc L St := by
  subst hp
  intro p e s m args below meth c T locs C X N eT
  exact (kt p e s m args below meth c T locs C X N eT).thru (X.ldcInt C.1 C.2.2.2.1 (mvT C.2.2.2.2.2.2.2 w) (g := mkF m pc L St) rfl (hb C.2.1 hd))
theorem ldcwI {index : Nat} {v : Int32} (hd : decode bs pc = .ok (.ldc_w index, 3)) (w : (Cond.constant y.cls index v).before a0 Z = true) (hp : pc + 3 = pc') (kt : Go l Z R y bs ml ret n0 Q h k n pc' L (.int v :: St)) : Go l Z R y bs ml ret n0 Q h k n pc L St := by
  subst hp
  intro p e s m args below meth c T locs C X N eT
  exact (kt p e s m args below meth c T locs C X N eT).thru (X.ldcwInt C.1 C.2.2.2.1 (mvT C.2.2.2.2.2.2.2 w) (g := mkF m pc L St) rfl (hb C.2.1 hd))
theorem ldc2J {index : Nat} {v : Int64} (hd : decode bs pc = .ok (.ldc2_w index, 3)) (w : (Cond.constantLong y.cls index v).before a0 Z = true) (hp : pc + 3 = pc') (kt : Go l Z R y bs ml ret n0 Q h k n pc' L (.long v :: St)) : Go l Z R y bs ml ret n0 Q h k n pc L St := by
  subst hp
  intro p e s m args below meth c T locs C X N eT
  exact (kt p e s m args below meth c T locs C X N eT).thru (X.ldc2Long C.1 C.2.2.2.1 (mvT C.2.2.2.2.2.2.2 w) (g := mkF m pc L St) rfl (hb C.2.1 hd))
theorem getF {R0 O nm d host : String} {index : Nat} {a : Addr} {v : Value} (hd : decode bs pc = .ok (.getfield index, 3)) (w : (Cond.fieldLink y.cls index R0 nm d).before a0 Z = true ∨ (Cond.fieldLinkNest y.cls index R0 nm d host).before a0 Z = true) (via : Via Z R0 O nm d) (F : Fld Z h a O nm d v) (hp : pc + 3 = pc') (kt : Go l Z R y bs ml ret n0 Q h k n pc' L (v :: St)) : Go l Z R y bs ml ret n0 Q h k n pc L (.ref a :: St) := by
  subst hp
  intro p e s m args below meth c T locs C X N eT
  obtain ⟨T', X', e', st⟩ := Jvm.RoadKit.getF X C.1 C.2.2.2.2.2.2.2 C.2.2.2.1 w via eT F (g := mkF m pc L (.ref a :: St)) rfl rfl (hb C.2.1 hd)
  exact (kt p e s m args below meth c T' locs C X' N e').thru st
theorem getS {R0 O nm d host : String} {index : Nat} {v : Value} (hd : decode bs pc = .ok (.getstatic index, 3)) (w : (Cond.fieldLink y.cls index R0 nm d).before a0 Z = true ∨ (Cond.fieldLinkNest y.cls index R0 nm d host).before a0 Z = true) (via : Via Z R0 O nm d) (F : Sta Z h O nm d v) (hp : pc + 3 = pc') (kt : Go l Z R y bs ml ret n0 Q h k n pc' L (v :: St)) : Go l Z R y bs ml ret n0 Q h k n pc L St := by
  subst hp
  intro p e s m args below meth c T locs C X N eT
  obtain ⟨T', X', e', st⟩ := getS2 X C.1 C.2.2.2.2.2.2.2 C.2.2.2.1 w via eT F (g := mkF m pc L St) rfl (hb C.2.1 hd)
  exact (kt p e s m args below meth c T' locs C X' N e').thru st
theorem putF {R0 O nm d host CC : String} {index kk : Nat} {ty : FieldType} {a : Addr} {v old : Value} (hd : decode bs pc = .ok (.putfield index, 3)) (w : (Cond.fieldLink y.cls index R0 nm d).before a0 Z = true ∨ (Cond.fieldLinkNest y.cls index R0 nm d host).before a0 Z = true) (via : Via Z R0 O nm d) (F : Fld Z h a O nm d old) (E : Exa Z h a CC)
    (Ly : (Cond.lays CC O nm d).before a0 Z = true ∨ ((Cond.laysFinal CC O nm d).before a0 Z = true ∧ y.cls = O ∧ y.name = "<init>")) (wi : (Cond.instantiable CC kk).before a0 Z = true) (hty : parseFieldDescriptor d = some ty) (hn : narrow ty v = v) (hf : fits ty v = true) (g : n0 ≤ a) (hp : pc + 3 = pc')
    (kt : ∀ h', Wr h h' a (Jvm.RoadKit.slotOf Z O nm d) v → Go l Z R y bs ml ret n0 Q h' k n pc' L St) : Go l Z R y bs ml ret n0 Q h k n pc L (v :: .ref a :: St) := by
  subst hp
  intro p e s m args below meth c T locs C X N eT
  obtain ⟨T', h', X', e', W', st⟩ := Jvm.RoadKit.putF X C.1 C.2.2.2.2.2.2.2 C.2.2.2.1 w via eT F E (Ly.imp id fun q => ⟨q.1, q.2.1, C.2.2.2.2.1.trans q.2.2⟩) wi hty hn hf (g := mkF m pc L (v :: .ref a :: St)) rfl rfl (hb C.2.1 hd)
  exact (kt h' W' p e s m args below meth c T' _ C X' (Fr.snoc X' N g) e').thru st
theorem putFN {R0 O nm d CC : String} {index kk : Nat} {ty : FieldType} {a : Addr} {v v' old : Value} (hd : decode bs pc = .ok (.putfield index, 3)) (w : (Cond.fieldLink y.cls index R0 nm d).before a0 Z = true) (via : Via Z R0 O nm d) (F : Fld Z h a O nm d old) (E : Exa Z h a CC)
    (Ly : (Cond.lays CC O nm d).before a0 Z = true ∨ ((Cond.laysFinal CC O nm d).before a0 Z = true ∧ y.cls = O ∧ y.name = "<init>")) (wi : (Cond.instantiable CC kk).before a0 Z = true) (hty : parseFieldDescriptor d = some ty) (hn : narrow ty v = v') (hf : fits ty v' = true) (g : n0 ≤ a) (hp : pc + 3 = pc')
    (kt : ∀ h', Wr h h' a (Jvm.RoadKit.slotOf Z O nm d) v' → Go l Z R y bs ml ret n0 Q h' k n pc' L St) : Go l Z R y bs ml ret n0 Q h k n pc L (v :: .ref a :: St) := by
  subst hp
  intro p e s m args below meth c T locs C X N eT
  obtain ⟨T', h', X', e', W', st⟩ := Jvm.RoadKit.putFN X C.1 C.2.2.2.2.2.2.2 C.2.2.2.1 w via eT F E (Ly.imp id fun q => ⟨q.1, q.2.1, C.2.2.2.2.1.trans q.2.2⟩) wi hty hn hf (g := mkF m pc L (v :: .ref a :: St)) rfl rfl (hb C.2.1 hd)
  exact (kt h' W' p e s m args below meth c T' _ C X' (Fr.snoc X' N g) e').thru st
theorem newO {CC : String} {index nn : Nat} (hd : decode bs pc = .ok (.new index, 3)) (w : (Cond.classLink y.cls index CC).before a0 Z = true) (wi : (Cond.instantiable CC nn).before a0 Z = true) (wz : (Cond.initialized CC).before a0 Z = true) (ek : k + 1 = k') (en : n + nn = n') (hc : k' ≤ R.cells) (hl : n' ≤ R.slots) (hp : pc + 3 = pc')
    (kt : ∀ h' a, a = h.size → Ext h h' → Exa Z h' a CC → (∀ {O nm d : String} {ty : FieldType}, Laid Z a0 CC O nm d → parseFieldDescriptor d = some ty → Fld Z h' a O nm d (defaultValue ty)) → Go l Z R y bs ml ret n0 Q h' k' n' pc' L (.ref a :: St)) : Go l Z R y bs ml ret n0 Q h k n pc L St := by
  subst hp ek en
  intro p e s m args below meth c T locs C X N eT
  obtain ⟨T', h', X', e', E, A, D, -, st⟩ := Jvm.RoadKit.newO X C.1 C.2.2.2.2.2.2.2 C.2.2.2.1 w wi wz eT (g := mkF m pc L St) rfl (hb C.2.1 hd) hc hl
  exact (kt h' _ rfl E A D p e s m args below meth c T' _ C X' N e').thru st
theorem newP {aty : ArrayType} {x : Int32} {cap : Nat} (hd : decode bs pc = .ok (.newarray aty, 2)) (w : (Cond.arrayClass (newarray.typeOf aty)).before a0 Z = true) (hn : ¬ x < 0) (hcap : x.toNatClampNeg ≤ cap) (hb' : cap * 8 ≤ 536870912) (ek : k + 1 = k') (en : n + cap = n') (hc : k' ≤ R.cells) (hl : n' ≤ R.slots) (hp : pc + 2 = pc')
    (kt : ∀ h' cA a, a = h.size → Ext h h' → Arr Z h' a (newA cA (newarray.typeOf aty) x) (newarray.typeOf aty) → Go l Z R y bs ml ret n0 Q h' k' n' pc' L (.ref a :: St)) : Go l Z R y bs ml ret n0 Q h k n pc L (.int x :: St) := by
  subst hp ek en
  intro p e s m args below meth c T locs C X N eT
  obtain ⟨T', h', cA, X', e', E, A, st⟩ := Jvm.RoadKit.newP X C.1 C.2.2.2.2.2.2.2 w eT (g := mkF m pc L (.int x :: St)) rfl (hb C.2.1 hd) rfl hn hcap hb' hc hl
  exact (kt h' cA _ rfl E A p e s m args below meth c T' _ C X' N e').thru st
theorem newR {CC : String} {index : Nat} {x : Int32} {cap : Nat} (hd : decode bs pc = .ok (.anewarray index, 3)) (w1 : (Cond.classLink y.cls index CC).before a0 Z = true) (w2 : (Cond.arrayOver (.object CC)).before a0 Z = true) (hn : ¬ x < 0) (hcap : x.toNatClampNeg ≤ cap) (hb' : cap * 8 ≤ 536870912) (ek : k + 1 = k') (en : n + cap = n') (hc : k' ≤ R.cells) (hl : n' ≤ R.slots) (hp : pc + 3 = pc')
    (kt : ∀ h' cA a, a = h.size → Ext h h' → Arr Z h' a (newA cA (.object CC) x) (.object CC) → Ovr Z cA CC → Go l Z R y bs ml ret n0 Q h' k' n' pc' L (.ref a :: St)) : Go l Z R y bs ml ret n0 Q h k n pc L (.int x :: St) := by
  subst hp ek en
  intro p e s m args below meth c T locs C X N eT
  obtain ⟨T', h', cA, X', e', E, A, O, st⟩ := Jvm.RoadKit.newR X C.1 C.2.2.2.2.2.2.2 C.2.2.2.1 w1 w2 eT (g := mkF m pc L (.int x :: St)) rfl (hb C.2.1 hd) rfl hn hcap hb' hc hl
  exact (kt h' cA _ rfl E A O p e s m args below meth c T' _ C X' N e').thru st
theorem stI {a : Addr} {cl : Cell} {j : Int32} {x : Int32} (hd : decode bs pc = .ok (.iastore, 1)) (A : Arr Z h a cl .int) (hj : ¬ (j < 0 ∨ cl.slots.size ≤ j.toNatClampNeg)) (g : n0 ≤ a) (hp : pc + 1 = pc') (kt : ∀ h', Wr h h' a j.toNatClampNeg (.int x) → Go l Z R y bs ml ret n0 Q h' k n pc' L St) : Go l Z R y bs ml ret n0 Q h k n pc L (.int x :: .int j :: .ref a :: St) := by
  subst hp
  intro p e s m args below meth c T locs C X N eT
  obtain ⟨T', h', X', e', W', st⟩ := Jvm.RoadKit.stI X C.1 C.2.2.2.2.2.2.2 eT A hj (g := mkF m pc L (.int x :: .int j :: .ref a :: St)) rfl rfl (hb C.2.1 hd)
  exact (kt h' W' p e s m args below meth c T' _ C X' (Fr.snoc X' N g) e').thru st
theorem stJ {a : Addr} {cl : Cell} {j : Int32} {x : Int64} (hd : decode bs pc = .ok (.lastore, 1)) (A : Arr Z h a cl .long) (hj : ¬ (j < 0 ∨ cl.slots.size ≤ j.toNatClampNeg)) (g : n0 ≤ a) (hp : pc + 1 = pc') (kt : ∀ h', Wr h h' a j.toNatClampNeg (.long x) → Go l Z R y bs ml ret n0 Q h' k n pc' L St) : Go l Z R y bs ml ret n0 Q h k n pc L (.long x :: .int j :: .ref a :: St) := by
  subst hp
  intro p e s m args below meth c T locs C X N eT
  obtain ⟨T', h', X', e', W', st⟩ := Jvm.RoadKit.stJ X C.1 C.2.2.2.2.2.2.2 eT A hj (g := mkF m pc L (.long x :: .int j :: .ref a :: St)) rfl rfl (hb C.2.1 hd)
  exact (kt h' W' p e s m args below meth c T' _ C X' (Fr.snoc X' N g) e').thru st
theorem stB {a : Addr} {cl : Cell} {j : Int32} {x : Int32} (hd : decode bs pc = .ok (.bastore, 1)) (A : Arr Z h a cl .byte) (hj : ¬ (j < 0 ∨ cl.slots.size ≤ j.toNatClampNeg)) (g : n0 ≤ a) (hp : pc + 1 = pc') (kt : ∀ h', Wr h h' a j.toNatClampNeg (.int (nar .byte x)) → Go l Z R y bs ml ret n0 Q h' k n pc' L St) : Go l Z R y bs ml ret n0 Q h k n pc L (.int x :: .int j :: .ref a :: St) := by
  subst hp
  intro p e s m args below meth c T locs C X N eT
  obtain ⟨T', h', X', e', W', st⟩ := Jvm.RoadKit.stB X C.1 C.2.2.2.2.2.2.2 eT A hj (g := mkF m pc L (.int x :: .int j :: .ref a :: St)) rfl rfl (hb C.2.1 hd)
  exact (kt h' W' p e s m args below meth c T' _ C X' (Fr.snoc X' N g) e').thru st
theorem stC {a : Addr} {cl : Cell} {j : Int32} {x : Int32} (hd : decode bs pc = .ok (.castore, 1)) (A : Arr Z h a cl .char) (hj : ¬ (j < 0 ∨ cl.slots.size ≤ j.toNatClampNeg)) (g : n0 ≤ a) (hp : pc + 1 = pc') (kt : ∀ h', Wr h h' a j.toNatClampNeg (.int (nar .char x)) → Go l Z R y bs ml ret n0 Q h' k n pc' L St) : Go l Z R y bs ml ret n0 Q h k n pc L (.int x :: .int j :: .ref a :: St) := by
  subst hp
  intro p e s m args below meth c T locs C X N eT
  obtain ⟨T', h', X', e', W', st⟩ := Jvm.RoadKit.stC X C.1 C.2.2.2.2.2.2.2 eT A hj (g := mkF m pc L (.int x :: .int j :: .ref a :: St)) rfl rfl (hb C.2.1 hd)
  exact (kt h' W' p e s m args below meth c T' _ C X' (Fr.snoc X' N g) e').thru st
theorem stZ {a : Addr} {cl : Cell} {j : Int32} {x : Int32} (hd : decode bs pc = .ok (.bastore, 1)) (A : Arr Z h a cl .boolean) (hj : ¬ (j < 0 ∨ cl.slots.size ≤ j.toNatClampNeg)) (g : n0 ≤ a) (hp : pc + 1 = pc') (kt : ∀ h', Wr h h' a j.toNatClampNeg (.int (nar .boolean x)) → Go l Z R y bs ml ret n0 Q h' k n pc' L St) : Go l Z R y bs ml ret n0 Q h k n pc L (.int x :: .int j :: .ref a :: St) := by
  subst hp
  intro p e s m args below meth c T locs C X N eT
  obtain ⟨T', h', X', e', W', st⟩ := Jvm.RoadKit.stZ X C.1 C.2.2.2.2.2.2.2 eT A hj (g := mkF m pc L (.int x :: .int j :: .ref a :: St)) rfl rfl (hb C.2.1 hd)
  exact (kt h' W' p e s m args below meth c T' _ C X' (Fr.snoc X' N g) e').thru st
theorem stR {a : Addr} {cl : Cell} {ty : FieldType} {j : Int32} {v : Value} (hd : decode bs pc = .ok (.aastore, 1)) (A : Arr Z h a cl ty) (hj : ¬ (j < 0 ∨ cl.slots.size ≤ j.toNatClampNeg)) (hty : ty.isReference = true) (F : Sto Z h a v) (g : n0 ≤ a) (hp : pc + 1 = pc') (kt : ∀ h', Wr h h' a j.toNatClampNeg v → Go l Z R y bs ml ret n0 Q h' k n pc' L St) : Go l Z R y bs ml ret n0 Q h k n pc L (v :: .int j :: .ref a :: St) := by
  subst hp
  intro p e s m args below meth c T locs C X N eT
  obtain ⟨T', h', X', e', W', st⟩ := Jvm.RoadKit.stR X C.1 C.2.2.2.2.2.2.2 eT A hj hty F (g := mkF m pc L (v :: .int j :: .ref a :: St)) rfl rfl (hb C.2.1 hd)
  exact (kt h' W' p e s m args below meth c T' _ C X' (Fr.snoc X' N g) e').thru st
theorem iaload {a : Addr} {cl : Cell} {j : Int32} {v : Value} (hd : decode bs pc = .ok (.iaload, 1)) (A : Arr Z h a cl .int) (hj : ¬ (j < 0 ∨ cl.slots.size ≤ j.toNatClampNeg)) (hv : cl.slots[j.toNatClampNeg]? = some v) (hp : pc + 1 = pc') (kt : Go l Z R y bs ml ret n0 Q h k n pc' L (v :: St)) : Go l Z R y bs ml ret n0 Q h k n pc L (.int j :: .ref a :: St) := by
  subst hp
  intro p e s m args below meth c T locs C X N eT
  exact (kt p e s m args below meth c T locs C X N eT).thru fun t q => X.iaload C.1 (by rw [eT]; exact A.1) (State.isArrayOf_alike C.2.2.2.2.2.2.2.alike A.2.1) A.2.2 hj hv (g := mkF m pc L (.int j :: .ref a :: St)) rfl rfl (hb C.2.1 hd) _ q
theorem laload {a : Addr} {cl : Cell} {j : Int32} {v : Value} (hd : decode bs pc = .ok (.laload, 1)) (A : Arr Z h a cl .long) (hj : ¬ (j < 0 ∨ cl.slots.size ≤ j.toNatClampNeg)) (hv : cl.slots[j.toNatClampNeg]? = some v) (hp : pc + 1 = pc') (kt : Go l Z R y bs ml ret n0 Q h k n pc' L (v :: St)) : Go l Z R y bs ml ret n0 Q h k n pc L (.int j :: .ref a :: St) := by
  subst hp
  intro p e s m args below meth c T locs C X N eT
  exact (kt p e s m args below meth c T locs C X N eT).thru fun t q => X.laload C.1 (by rw [eT]; exact A.1) (State.isArrayOf_alike C.2.2.2.2.2.2.2.alike A.2.1) A.2.2 hj hv (g := mkF m pc L (.int j :: .ref a :: St)) rfl rfl (hb C.2.1 hd) _ q
theorem caload {a : Addr} {cl : Cell} {j : Int32} {v : Value} (hd : decode bs pc = .ok (.caload, 1)) (A : Arr Z h a cl .char) (hj : ¬ (j < 0 ∨ cl.slots.size ≤ j.toNatClampNeg)) (hv : cl.slots[j.toNatClampNeg]? = some v) (hp : pc + 1 = pc') (kt : Go l Z R y bs ml ret n0 Q h k n pc' L (v :: St)) : Go l Z R y bs ml ret n0 Q h k n pc L (.int j :: .ref a :: St) := by
  subst hp
  intro p e s m args below meth c T locs C X N eT
  exact (kt p e s m args below meth c T locs C X N eT).thru fun t q => X.caload C.1 (by rw [eT]; exact A.1) (State.isArrayOf_alike C.2.2.2.2.2.2.2.alike A.2.1) A.2.2 hj hv (g := mkF m pc L (.int j :: .ref a :: St)) rfl rfl (hb C.2.1 hd) _ q
theorem baload {a : Addr} {cl : Cell} {j : Int32} {v : Value} (hd : decode bs pc = .ok (.baload, 1)) (A : Arr Z h a cl .byte) (hj : ¬ (j < 0 ∨ cl.slots.size ≤ j.toNatClampNeg)) (hv : cl.slots[j.toNatClampNeg]? = some v) (hp : pc + 1 = pc') (kt : Go l Z R y bs ml ret n0 Q h k n pc' L (v :: St)) : Go l Z R y bs ml ret n0 Q h k n pc L (.int j :: .ref a :: St) := by
  subst hp
  intro p e s m args below meth c T locs C X N eT
  exact (kt p e s m args below meth c T locs C X N eT).thru fun t q => X.baloadBytes C.1 (by rw [eT]; exact A.1) (State.isArrayOf_alike C.2.2.2.2.2.2.2.alike A.2.1) A.2.2 hj hv (g := mkF m pc L (.int j :: .ref a :: St)) rfl rfl (hb C.2.1 hd) _ q
theorem aaload {a : Addr} {cl : Cell} {ty : FieldType} {j : Int32} {v : Value} (hd : decode bs pc = .ok (.aaload, 1)) (A : Arr Z h a cl ty) (hty : ty.isReference = true) (hj : ¬ (j < 0 ∨ cl.slots.size ≤ j.toNatClampNeg)) (hv : cl.slots[j.toNatClampNeg]? = some v) (hp : pc + 1 = pc') (kt : Go l Z R y bs ml ret n0 Q h k n pc' L (v :: St)) : Go l Z R y bs ml ret n0 Q h k n pc L (.int j :: .ref a :: St) := by
  subst hp
  intro p e s m args below meth c T locs C X N eT
  exact (kt p e s m args below meth c T locs C X N eT).thru fun t q => X.aaload C.1 (by rw [eT]; exact A.1) (State.isArrayOf_alike C.2.2.2.2.2.2.2.alike A.2.1) hty A.2.2 hj hv (g := mkF m pc L (.int j :: .ref a :: St)) rfl rfl (hb C.2.1 hd) _ q
theorem alen {a : Addr} {cl : Cell} {ty : FieldType} {x : Int32} (hd : decode bs pc = .ok (.arraylength, 1)) (A : Arr Z h a cl ty) (hx : cl.slots.size.toInt32 = x) (hp : pc + 1 = pc') (kt : Go l Z R y bs ml ret n0 Q h k n pc' L (.int x :: St)) : Go l Z R y bs ml ret n0 Q h k n pc L (.ref a :: St) := by
  subst hp hx
  intro p e s m args below meth c T locs C X N eT
  exact (kt p e s m args below meth c T locs C X N eT).thru fun t q => X.arraylength C.1 (by rw [eT]; exact A.1) (State.isArrayOf_alike C.2.2.2.2.2.2.2.alike A.2.1) (g := mkF m pc L (.ref a :: St)) rfl rfl (hb C.2.1 hd) _ q
theorem multi22 {index : Nat} {ty : FieldType} {cn : String} (hd : decode bs pc = .ok (.multianewarray index 2, 4)) (w1 : (Cond.classLink y.cls index cn).before a0 Z = true) (hcn : "[" ++ (FieldType.array ty).toString = cn) (w2 : (Cond.arrayOver (.array ty)).before a0 Z = true) (w3 : (Cond.arrayClass ty).before a0 Z = true) (hcb : componentBytes ty ≤ 8) (hdf : fits ty (defaultValue ty) = true) (hdd : (defaultValue ty).isDefault = true) (ek : k + 3 = k') (en : n + 6 = n') (hc : k' ≤ R.cells) (hl : n' ≤ R.slots) (hp : pc + 4 = pc')
    (kt : ∀ h' cA cI a, a = h.size → h'.size = h.size + 3 → Ext h h' → Arv Z h' a cA (.array ty) (2 : Int32) [.ref (a + 1), .ref (a + 2)] .null → Arv Z h' (a + 1) cI ty (2 : Int32) [defaultValue ty, defaultValue ty] (defaultValue ty) → Arv Z h' (a + 2) cI ty (2 : Int32) [defaultValue ty, defaultValue ty] (defaultValue ty) → Z.vm.findClass (FieldType.array ty).toString = some cI → Go l Z R y bs ml ret n0 Q h' k' n' pc' L (.ref a :: St)) : Go l Z R y bs ml ret n0 Q h k n pc L (.int (2 : Int32) :: .int (2 : Int32) :: St) := by
  subst hp ek en hcn
  intro p e s m args below meth c T locs C X N eT
  have hZ := C.2.2.2.2.2.2.2
  have hc2 : (2 : Int32).toNatClampNeg = 2 := by decide
  obtain ⟨vm₁, cA, cI, hW, hfA, hfC, hO, hI, X', st⟩ := X.multianewarray2F C.1 C.2.2.2.1 (mvT hZ w1) ((Cond.arrayOver_setVmC (args := a0) (s := Z) hZ.alike (.array ty)).trans w2) (mvA hZ w3) (g := mkF m pc L (.int (2 : Int32) :: .int (2 : Int32) :: St)) rfl (hb C.2.1 hd) (n := (2 : Int32)) (k := (2 : Int32)) (rest := St) rfl (by decide) (by decide) (by decide) (by rw [hc2]; omega) (by decide) hdf hdd (by rw [hc2]; omega) (by rw [hc2]; omega)
  rw [hc2] at X' st
  subst eT
  obtain ⟨f1, f2, -, -⟩ := Jvm.Free.Multi.fill_facts (T.setVm vm₁) cA cI 2 2 (defaultValue ty) 2
  obtain ⟨o1, o2, o3⟩ := Jvm.Free.Multi.outerC_facts cA 2 (T.setVm vm₁).heap.size 2
  have hsz : (T.setVm vm₁).heap.size = T.heap.size := rfl
  have al : s.vm.Alike Z.vm := hZ.alike.symm
  have EE : Ext T.heap (Jvm.Free.Multi.fill (T.setVm vm₁) cA cI 2 2 (defaultValue ty) 2).heap := ext_of fun a q => Jvm.Free.Multi.fill_old (T.setVm vm₁) cA cI 2 2 (defaultValue ty) q 2
  have inn : ∀ j, j < 2 → Arv Z (Jvm.Free.Multi.fill (T.setVm vm₁) cA cI 2 2 (defaultValue ty) 2).heap (T.heap.size + 1 + j) cI ty (2 : Int32) [defaultValue ty, defaultValue ty] (defaultValue ty) := fun j hj => by
    have hget := Jvm.Free.Multi.fill_inner (T.setVm vm₁) cA cI 2 2 (defaultValue ty) 2 j hj
    refine ⟨_, ⟨hget, State.isArrayOf_alike al (hI 2 (defaultValue ty)).1, (hI 2 (defaultValue ty)).2⟩, rfl, by simp [Jvm.Free.Multi.innerC, hc2], by decide, fun i hi => ?_, fun i hi => ?_⟩
    · simp only [Jvm.Free.Multi.innerC, Array.size_replicate] at hi ⊢
      match i, hi with
      | 0, _ => rfl
      | 1, _ => rfl
    · simp only [Jvm.Free.Multi.innerC, Array.size_replicate] at hi
      match i, hi with
      | 0, _ => exact hdf
      | 1, _ => exact hdf
  have hZc : Z.vm.findClass (FieldType.array ty).toString = some cI := by rw [← hZ.alike.findClass]; exact hfC
  refine (kt _ cA cI T.heap.size rfl f1 EE ?_ (inn 0 (by decide)) (inn 1 (by decide)) hZc p e s m args below meth c _ _ C X' N rfl).thru st
  refine ⟨_, ⟨f2, State.isArrayOf_alike al (hO 2 _ 2).1, (hO 2 _ 2).2⟩, o1, by rw [o3, hc2], by decide, fun i hi => ?_, fun i hi => ?_⟩
  · rw [o3] at hi
    rw [Jvm.Free.Multi.outerC_slot cA 2 _ 2 i hi, if_pos hi]
    match i, hi with
    | 0, _ => rfl
    | 1, _ => rfl
  · rw [o3] at hi
    match i, hi with
    | 0, _ => rfl
    | 1, _ => rfl
theorem castY {KK : String} {index : Nat} {a : Addr} (hd : decode bs pc = .ok (.checkcast index, 3)) (w : (Cond.classLink y.cls index KK).before a0 Z = true) (F : Ins Z h a KK true) (hp : pc + 3 = pc') (kt : Go l Z R y bs ml ret n0 Q h k n pc' L (.ref a :: St)) : Go l Z R y bs ml ret n0 Q h k n pc L (.ref a :: St) := by
  subst hp
  intro p e s m args below meth c T locs C X N eT
  obtain ⟨T', X', e', st⟩ := Jvm.RoadKit.castY X C.1 C.2.2.2.2.2.2.2 C.2.2.2.1 w eT F (g := mkF m pc L (.ref a :: St)) rfl rfl (hb C.2.1 hd)
  exact (kt p e s m args below meth c T' locs C X' N e').thru st
theorem instY {KK : String} {index : Nat} {a : Addr} (hd : decode bs pc = .ok (.instanceof index, 3)) (w : (Cond.classLink y.cls index KK).before a0 Z = true) (F : Ins Z h a KK true) (hp : pc + 3 = pc') (kt : Go l Z R y bs ml ret n0 Q h k n pc' L (.int 1 :: St)) : Go l Z R y bs ml ret n0 Q h k n pc L (.ref a :: St) := by
  subst hp
  intro p e s m args below meth c T locs C X N eT
  obtain ⟨T', X', e', st⟩ := Jvm.RoadKit.instY X C.1 C.2.2.2.2.2.2.2 C.2.2.2.1 w eT F (g := mkF m pc L (.ref a :: St)) rfl rfl (hb C.2.1 hd)
  exact (kt p e s m args below meth c T' locs C X' N e').thru st
theorem instNo {KK CC : String} {index : Nat} {a : Addr} (hd : decode bs pc = .ok (.instanceof index, 3)) (w : (Cond.classLink y.cls index KK).before a0 Z = true) (E : Exa Z h a CC) (F : ∃ c t, Z.vm.findClass CC = some c ∧ Z.vm.findClass KK = some t ∧ Z.vm.assignable c t = false) (hp : pc + 3 = pc') (kt : Go l Z R y bs ml ret n0 Q h k n pc' L (.int 0 :: St)) : Go l Z R y bs ml ret n0 Q h k n pc L (.ref a :: St) := by
  subst hp
  intro p e s m args below meth c T locs C X N eT
  obtain ⟨T', X', e', st⟩ := Jvm.RoadKit.instNo X C.1 C.2.2.2.2.2.2.2 C.2.2.2.1 w eT E F (g := mkF m pc L (.ref a :: St)) rfl rfl (hb C.2.1 hd)
  exact (kt p e s m args below meth c T' locs C X' N e').thru st
theorem instNull {index : Nat} (hd : decode bs pc = .ok (.instanceof index, 3)) (hp : pc + 3 = pc') (kt : Go l Z R y bs ml ret n0 Q h k n pc' L (.int 0 :: St)) : Go l Z R y bs ml ret n0 Q h k n pc L (.null :: St) := by
  subst hp
  intro p e s m args below meth c T locs C X N eT
  exact (kt p e s m args below meth c T locs C X N eT).thru (X.instanceofNull C.1 (g := mkF m pc L (.null :: St)) rfl rfl (hb C.2.1 hd))
theorem castNull {index : Nat} (hd : decode bs pc = .ok (.checkcast index, 3)) (hp : pc + 3 = pc') (kt : Go l Z R y bs ml ret n0 Q h k n pc' L (.null :: St)) : Go l Z R y bs ml ret n0 Q h k n pc L (.null :: St) := by
  subst hp
  intro p e s m args below meth c T locs C X N eT
  exact (kt p e s m args below meth c T locs C X N eT).thru (X.checkcastNull C.1 (g := mkF m pc L (.null :: St)) rfl rfl (hb C.2.1 hd))
theorem initO {index : Nat} {a : Addr} {W : Nat} (hd : decode bs pc = .ok (.invokespecial index, 3)) (w1 : (Cond.methodLink y.cls index Lib.objectInit).before a0 Z = true) (w2 : (Cond.instanceMethod Lib.objectInit).before a0 Z = true) (w3 : (Cond.code Lib.objectInit ⟨#[0xb1]⟩ 1 none).before a0 Z = true) (hsz : L.size = ml) (hf : 1 ≤ R.frames) (hW : (St.map fun v => v.category).sum ≤ W) (hl : W + 12 ≤ R.locals) (hp : pc + 3 = pc') (kt : Go l Z R y bs ml ret n0 Q h k n pc' L St) : Go l Z R y bs ml ret n0 Q h k n pc L (.ref a :: St) := by
  subst hp
  intro p e s m args below meth c T locs C X N eT
  obtain ⟨T', X', e', st⟩ := Jvm.RoadKit.initO X C.1 C.2.2.2.2.2.2.2 C.2.2.2.1 w1 w2 w3 eT (g := mkF m pc L (.ref a :: St)) rfl (by rw [C.2.2.1]; exact hsz) rfl (hb C.2.1 hd) hf (W := W) (by show 2 * 0 + _ ≤ _; omega) hl
  exact (kt p e s m args below meth c T' locs C X' N e').thru st
theorem callS {z : MethodName} {bz : ByteArray} {mz : Nat} {rz : Option FieldType} {rm : Room} {as' : Array Value} {Q' : Option Value → Heap → Prop} {W : Nat} {argsL rest : List Value} {ps : List FieldType} {rt : Option FieldType} {index : Nat} (hd : decode bs pc = .ok (.invokestatic index, 3)) (w1 : (Cond.methodLink y.cls index z).before a0 Z = true) (w2 : (Cond.static z).before a0 Z = true) (w3 : (Cond.initialized z.cls).before a0 Z = true) (w4 : (Cond.code z bz mz rz).before a0 Z = true) (hy : z.cls ≠ "java/lang/invoke/MethodHandle" ∧ z.cls ≠ "java/lang/invoke/VarHandle")
    (con : Con l Z rm z bz mz rz n0 as' h Q') (hf : rm.frames + 1 ≤ R.frames) (hl : W + (mz + 11) + rm.locals ≤ R.locals) (ek : k + rm.cells = k') (en : n + rm.slots = n') (hc : k' ≤ R.cells) (hn : n' ≤ R.slots) (hsz : L.size = ml) (pd : parseMethodDescriptor z.desc = some ⟨ps, rt⟩) (hlen : argsL.length = ps.length) (hst : St = argsL.reverse ++ rest) (has : as' = argsL.toArray) (hW : (rest.map fun v => v.category).sum ≤ W) (hp : pc + 3 = pc')
    (kt : ∀ h' v, Q' v h' → Go l Z R y bs ml ret n0 Q h' k' n' pc' L (v.toList ++ rest)) : Go l Z R y bs ml ret n0 Q h k n pc L St := by
  subst hp has ek en
  intro p e s m args below meth c T locs C X N eT
  have hZ := C.2.2.2.2.2.2.2
  obtain ⟨v, _, ⟨T', Lp, kp, np⟩, -, X', ⟨Lc, ⟨hQ, N'⟩, e1, e2, e3⟩, st⟩ := Jvm.LawKit.callS X C.1 (y := z) C.2.2.2.1 (mvT hZ w1) (mvT hZ w2) (mvT hZ w3) (mvT hZ w4) hy (backOf (W := W) (Q := fun v h' L => Q' v h' ∧ Fr n0 L) (con []) hZ w4 w3 hf hl) (g := mkF m pc L St) rfl (by rw [C.2.2.1]; exact hsz) (argsL := argsL) (rest := rest) (lenOf pd hlen) hst (by show 2 * 0 + _ ≤ _; omega) (hb C.2.1 hd) (fun _ _ => ⟨rfl, eT, hc, hn⟩)
  dsimp only [Pt.U, Pt.locs, Pt.cells, Pt.slots] at X' e1 e2 e3 st hQ
  subst e1 e2 e3
  exact (kt T'.heap v hQ p e s m args below meth c T' _ C X' (Fr.app N N') rfl).thru st
theorem callI {z : MethodName} {bz : ByteArray} {mz : Nat} {rm : Room} {as' : Array Value} {Q' : Option Value → Heap → Prop} {W : Nat} {argsL rest : List Value} {ps : List FieldType} {rt : Option FieldType} {index : Nat} {a : Addr} (hd : decode bs pc = .ok (.invokespecial index, 3)) (hi : z.name = "<init>") (w1 : (Cond.methodLink y.cls index z).before a0 Z = true) (w2 : (Cond.instanceMethod z).before a0 Z = true) (w3 : (Cond.initialized z.cls).before a0 Z = true) (w4 : (Cond.code z bz mz none).before a0 Z = true) (hy : z.cls ≠ "java/lang/invoke/MethodHandle" ∧ z.cls ≠ "java/lang/invoke/VarHandle")
    (con : Con l Z rm z bz mz none n0 as' h Q') (hf : rm.frames + 1 ≤ R.frames) (hl : W + (mz + 11) + rm.locals ≤ R.locals) (ek : k + rm.cells = k') (en : n + rm.slots = n') (hc : k' ≤ R.cells) (hn : n' ≤ R.slots) (hsz : L.size = ml) (pd : parseMethodDescriptor z.desc = some ⟨ps, rt⟩) (hlen : argsL.length = ps.length) (hst : St = argsL.reverse ++ .ref a :: rest) (has : as' = (.ref a :: argsL).toArray) (hW : (rest.map fun v => v.category).sum ≤ W) (hp : pc + 3 = pc')
    (kt : ∀ h' v, Q' v h' → Go l Z R y bs ml ret n0 Q h' k' n' pc' L (v.toList ++ rest)) : Go l Z R y bs ml ret n0 Q h k n pc L St := by
  subst hp has ek en
  intro p e s m args below meth c T locs C X N eT
  have hZ := C.2.2.2.2.2.2.2
  obtain ⟨v, _, ⟨T', Lp, kp, np⟩, -, X', ⟨Lc, ⟨hQ, N'⟩, e1, e2, e3⟩, st⟩ := X.specialBack C.1 (y := z) hi C.2.2.2.1 (mvT hZ w1) (mvT hZ w2) (mvT hZ w4) hy (backOf (W := W) (Q := fun v h' L => Q' v h' ∧ Fr n0 L) (con []) hZ w4 w3 hf hl) (g := mkF m pc L St) rfl (by rw [C.2.2.1]; exact hsz) (Steps.refl _) (a := a) (argsL := argsL) (rest := rest) (lenOf pd hlen) hst (by show 2 * 0 + _ ≤ _; omega) (hb C.2.1 hd) (fun _ _ => ⟨rfl, eT, hc, hn⟩)
  dsimp only [Pt.U, Pt.locs, Pt.cells, Pt.slots] at X' e1 e2 e3 st hQ
  subst e1 e2 e3
  exact (kt T'.heap v hQ p e s m args below meth c T' _ C X' (Fr.app N N') rfl).thru fun t q => st.trans q
theorem callV {z : MethodName} {bz : ByteArray} {mz : Nat} {rz : Option FieldType} {rm : Room} {as' : Array Value} {Q' : Option Value → Heap → Prop} {W : Nat} {argsL rest : List Value} {ps : List FieldType} {rt : Option FieldType} {index : Nat} {CC : String} {a : Addr} (hd : decode bs pc = .ok (.invokevirtual index, 3)) (w1 : (Cond.methodLink y.cls index z).before a0 Z = true) (w2 : (Cond.declares z).before a0 Z = true) (ws : (Cond.selects CC z z).before a0 Z = true) (wi : (Cond.instanceMethod z).before a0 Z = true) (w3 : (Cond.initialized z.cls).before a0 Z = true) (w4 : (Cond.code z bz mz rz).before a0 Z = true) (hy : z.cls ≠ "java/lang/invoke/MethodHandle" ∧ z.cls ≠ "java/lang/invoke/VarHandle") (E : Exa Z h a CC)
    (con : Con l Z rm z bz mz rz n0 as' h Q') (hf : rm.frames + 1 ≤ R.frames) (hl : W + (mz + 11) + rm.locals ≤ R.locals) (ek : k + rm.cells = k') (en : n + rm.slots = n') (hc : k' ≤ R.cells) (hn : n' ≤ R.slots) (hsz : L.size = ml) (pd : parseMethodDescriptor z.desc = some ⟨ps, rt⟩) (hlen : argsL.length = ps.length) (hst : St = argsL.reverse ++ .ref a :: rest) (has : as' = (.ref a :: argsL).toArray) (hW : (rest.map fun v => v.category).sum ≤ W) (hp : pc + 3 = pc')
    (kt : ∀ h' v, Q' v h' → Go l Z R y bs ml ret n0 Q h' k' n' pc' L (v.toList ++ rest)) : Go l Z R y bs ml ret n0 Q h k n pc L St := by
  subst hp has ek en
  intro p e s m args below meth c T locs C X N eT
  have hZ := C.2.2.2.2.2.2.2
  obtain ⟨cq, kq, qa, qb, qc⟩ := isOf hZ eT E
  obtain ⟨v, _, ⟨T', Lp, kp, np⟩, -, X', ⟨Lc, ⟨hQ, N'⟩, e1, e2, e3⟩, st⟩ := X.virtualBack C.1 (y := z) (z := z) C.2.2.2.1 (mvT hZ w1) (mvT hZ w2) (notFace_of_selects (args := #[]) (mvT hZ ws)) (mvT hZ ws) (mvT hZ wi) hy (backOf (W := W) (Q := fun v h' L => Q' v h' ∧ Fr n0 L) (con []) hZ w4 w3 hf hl) qa qc (g := mkF m pc L St) rfl (by rw [C.2.2.1]; exact hsz) (Steps.refl _) (argsL := argsL) (rest := rest) (lenOf pd hlen) hst (by show 2 * 0 + _ ≤ _; omega) (hb C.2.1 hd) (fun _ _ => ⟨rfl, eT, hc, hn⟩)
  dsimp only [Pt.U, Pt.locs, Pt.cells, Pt.slots] at X' e1 e2 e3 st hQ
  subst e1 e2 e3
  exact (kt T'.heap v hQ p e s m args below meth c T' _ C X' (Fr.app N N') rfl).thru fun t q => st.trans q
theorem callVF {z : MethodName} {bz : ByteArray} {mz : Nat} {rz : Option FieldType} {rm : Room} {as' : Array Value} {Q' : Option Value → Heap → Prop} {W : Nat} {argsL rest : List Value} {ps : List FieldType} {rt : Option FieldType} {index cnt : Nat} {x' : MethodName} {CC : String} {a : Addr} (hd : decode bs pc = .ok (.invokeinterface index cnt, 5)) (w1 : (Cond.methodLink y.cls index x').before a0 Z = true) (w2 : (Cond.declares x').before a0 Z = true) (wf : (Cond.interfaceMethod x'.cls x'.cls x'.name x'.desc).before a0 Z = true) (ws : (Cond.selects CC x' z).before a0 Z = true) (wi : (Cond.instanceMethod z).before a0 Z = true) (wp : (Cond.publicMethod z).before a0 Z = true) (wu : (Cond.unhidden CC x'.name x'.desc).before a0 Z = true) (wc : (Cond.castable CC x'.cls).before a0 Z = true) (w3 : (Cond.initialized z.cls).before a0 Z = true) (w4 : (Cond.code z bz mz rz).before a0 Z = true) (hy : x'.cls ≠ "java/lang/invoke/MethodHandle" ∧ x'.cls ≠ "java/lang/invoke/VarHandle") (E : Exa Z h a CC)
    (con : Con l Z rm z bz mz rz n0 as' h Q') (hf : rm.frames + 1 ≤ R.frames) (hl : W + (mz + 11) + rm.locals ≤ R.locals) (ek : k + rm.cells = k') (en : n + rm.slots = n') (hc : k' ≤ R.cells) (hn : n' ≤ R.slots) (hsz : L.size = ml) (pd : parseMethodDescriptor x'.desc = some ⟨ps, rt⟩) (hlen : argsL.length = ps.length) (hst : St = argsL.reverse ++ .ref a :: rest) (has : as' = (.ref a :: argsL).toArray) (hW : (rest.map fun v => v.category).sum ≤ W) (hp : pc + 5 = pc')
    (kt : ∀ h' v, Q' v h' → Go l Z R y bs ml ret n0 Q h' k' n' pc' L (v.toList ++ rest)) : Go l Z R y bs ml ret n0 Q h k n pc L St := by
  subst hp has ek en
  intro p e s m args below meth c T locs C X N eT
  have hZ := C.2.2.2.2.2.2.2
  obtain ⟨cq, kq, qa, qb, qc⟩ := isOf hZ eT E
  obtain ⟨v, _, ⟨T', Lp, kp, np⟩, -, X', ⟨Lc, ⟨hQ, N'⟩, e1, e2, e3⟩, st⟩ := X.interfaceBack C.1 (xi := x') (y := z) C.2.2.2.1 (mvT hZ w1) (mvT hZ w2) (mvT hZ wf (by have g1 := hy.1; have g2 := hy.2; simp [Cond.onTables, Cond.keepsFace, Cond.keeps, Cond.steady, Cond.faceAtom, g1, g2])) (mvT hZ ws) (mvT hZ wi) (mvT hZ wp) (mvT hZ wu) (mvT hZ wc) hy (backOf (W := W) (Q := fun v h' L => Q' v h' ∧ Fr n0 L) (con []) hZ w4 w3 hf hl) qa qb qc (g := mkF m pc L St) rfl (by rw [C.2.2.1]; exact hsz) (Steps.refl _) (argsL := argsL) (rest := rest) (lenOf pd hlen) hst (by show 2 * 0 + _ ≤ _; omega) (hb C.2.1 hd) (fun _ _ => ⟨rfl, eT, hc, hn⟩)
  dsimp only [Pt.U, Pt.locs, Pt.cells, Pt.slots] at X' e1 e2 e3 st hQ
  subst e1 e2 e3
  exact (kt T'.heap v hQ p e s m args below meth c T' _ C X' (Fr.app N N') rfl).thru fun t q => st.trans q
theorem callP {z : MethodName} {bz : ByteArray} {mz : Nat} {rz : Option FieldType} {rm : Room} {as' : Array Value} {Q' : Option Value → Heap → Prop} {W : Nat} {argsL rest : List Value} {ps : List FieldType} {rt : Option FieldType} {index : Nat} {a : Addr} {CC : String} (hd : decode bs pc = .ok (.invokevirtual index, 3)) (w1 : (Cond.methodLink y.cls index z).before a0 Z = true) (wi : (Cond.instanceMethod z).before a0 Z = true) {nn : Nat} (win : (Cond.instantiable z.cls nn).before a0 Z = true) (wp : (Cond.privateMethod z).before a0 Z = true) (w3 : (Cond.initialized z.cls).before a0 Z = true) (w4 : (Cond.code z bz mz rz).before a0 Z = true) (hy : z.cls ≠ "java/lang/invoke/MethodHandle" ∧ z.cls ≠ "java/lang/invoke/VarHandle") (E : Exa Z h a CC)
    (con : Con l Z rm z bz mz rz n0 as' h Q') (hf : rm.frames + 1 ≤ R.frames) (hl : W + (mz + 11) + rm.locals ≤ R.locals) (ek : k + rm.cells = k') (en : n + rm.slots = n') (hc : k' ≤ R.cells) (hn : n' ≤ R.slots) (hsz : L.size = ml) (pd : parseMethodDescriptor z.desc = some ⟨ps, rt⟩) (hlen : argsL.length = ps.length) (hst : St = argsL.reverse ++ .ref a :: rest) (has : as' = (.ref a :: argsL).toArray) (hW : (rest.map fun v => v.category).sum ≤ W) (hp : pc + 3 = pc')
    (kt : ∀ h' v, Q' v h' → Go l Z R y bs ml ret n0 Q h' k' n' pc' L (v.toList ++ rest)) : Go l Z R y bs ml ret n0 Q h k n pc L St := by
  subst hp has ek en
  intro p e s m args below meth c T locs C X N eT
  have hZ := C.2.2.2.2.2.2.2
  have ws : (Cond.selects z.cls z z).before a0 Z = true := by
    obtain ⟨t, kt, g1, g2, g3, g4, -, -⟩ := Cond.instantiable_spec win
    exact selects_self_of_private g1 g2 (Bool.or_eq_false_iff.mp g4).1 (Cond.privateMethod_at wp) wi hy
  obtain ⟨cq, qa, qb⟩ := E.cell
  obtain ⟨v, _, ⟨T', Lp, kp, np⟩, -, X', ⟨Lc, ⟨hQ, N'⟩, e1, e2, e3⟩, st⟩ := X.privateBack C.1 (y := z) C.2.2.2.1 (mvT hZ w1) (mvT hZ wi) (mvT hZ ws) (Cond.privateMethod_at (mvP hZ wp (args := #[]))) (mvT hZ w4) hy (backOf (W := W) (Q := fun v h' L => Q' v h' ∧ Fr n0 L) (con []) hZ w4 w3 hf hl) (g := mkF m pc L St) rfl (by rw [C.2.2.1]; exact hsz) (Steps.refl _) (a := a) (by rw [eT]; exact qa) qb (argsL := argsL) (rest := rest) (lenOf pd hlen) hst (by show 2 * 0 + _ ≤ _; omega) (hb C.2.1 hd) (fun _ _ => ⟨rfl, eT, hc, hn⟩)
  dsimp only [Pt.U, Pt.locs, Pt.cells, Pt.slots] at X' e1 e2 e3 st hQ
  subst e1 e2 e3
  exact (kt T'.heap v hQ p e s m args below meth c T' _ C X' (Fr.app N N') rfl).thru fun t q => st.trans q
theorem callS0 {z : MethodName} {bz : ByteArray} {mz : Nat} {rz : Option FieldType} {rm : Room} {as' : Array Value} {r : Option Value} {St' : List Value} {W : Nat} {argsL rest : List Value} {ps : List FieldType} {rt : Option FieldType} {index : Nat} (hd : decode bs pc = .ok (.invokestatic index, 3)) (w1 : (Cond.methodLink y.cls index z).before a0 Z = true) (w2 : (Cond.static z).before a0 Z = true) (w3 : (Cond.initialized z.cls).before a0 Z = true) (w4 : (Cond.code z bz mz rz).before a0 Z = true) (hy : z.cls ≠ "java/lang/invoke/MethodHandle" ∧ z.cls ≠ "java/lang/invoke/VarHandle")
    (con : Con l Z rm z bz mz rz n0 as' h (Ret r h)) (hf : rm.frames + 1 ≤ R.frames) (hl : W + (mz + 11) + rm.locals ≤ R.locals) (ek : k + rm.cells = k') (en : n + rm.slots = n') (hc : k' ≤ R.cells) (hn : n' ≤ R.slots) (hsz : L.size = ml) (pd : parseMethodDescriptor z.desc = some ⟨ps, rt⟩) (hlen : argsL.length = ps.length) (hst : St = argsL.reverse ++ rest) (has : as' = argsL.toArray) (hW : (rest.map fun v => v.category).sum ≤ W) (hs : r.toList ++ rest = St') (hp : pc + 3 = pc')
    (kt : Go l Z R y bs ml ret n0 Q h k' n' pc' L St') : Go l Z R y bs ml ret n0 Q h k n pc L St := by
  subst hs
  refine callS hd w1 w2 w3 w4 hy con hf hl ek en hc hn hsz pd hlen hst has hW hp ?_
  rintro h' v ⟨rfl, rfl⟩
  exact kt
theorem callI0 {z : MethodName} {bz : ByteArray} {mz : Nat} {rm : Room} {as' : Array Value} {r : Option Value} {St' : List Value} {W : Nat} {argsL rest : List Value} {ps : List FieldType} {rt : Option FieldType} {index : Nat} {a : Addr} (hd : decode bs pc = .ok (.invokespecial index, 3)) (hi : z.name = "<init>") (w1 : (Cond.methodLink y.cls index z).before a0 Z = true) (w2 : (Cond.instanceMethod z).before a0 Z = true) (w3 : (Cond.initialized z.cls).before a0 Z = true) (w4 : (Cond.code z bz mz none).before a0 Z = true) (hy : z.cls ≠ "java/lang/invoke/MethodHandle" ∧ z.cls ≠ "java/lang/invoke/VarHandle")
    (con : Con l Z rm z bz mz none n0 as' h (Ret r h)) (hf : rm.frames + 1 ≤ R.frames) (hl : W + (mz + 11) + rm.locals ≤ R.locals) (ek : k + rm.cells = k') (en : n + rm.slots = n') (hc : k' ≤ R.cells) (hn : n' ≤ R.slots) (hsz : L.size = ml) (pd : parseMethodDescriptor z.desc = some ⟨ps, rt⟩) (hlen : argsL.length = ps.length) (hst : St = argsL.reverse ++ .ref a :: rest) (has : as' = (.ref a :: argsL).toArray) (hW : (rest.map fun v => v.category).sum ≤ W) (hs : r.toList ++ rest = St') (hp : pc + 3 = pc')
    (kt : Go l Z R y bs ml ret n0 Q h k' n' pc' L St') : Go l Z R y bs ml ret n0 Q h k n pc L St := by
  subst hs
  refine callI hd hi w1 w2 w3 w4 hy con hf hl ek en hc hn hsz pd hlen hst has hW hp ?_
  rintro h' v ⟨rfl, rfl⟩
  exact kt
theorem callV0 {z : MethodName} {bz : ByteArray} {mz : Nat} {rz : Option FieldType} {rm : Room} {as' : Array Value} {r : Option Value} {St' : List Value} {W : Nat} {argsL rest : List Value} {ps : List FieldType} {rt : Option FieldType} {index : Nat} {CC : String} {a : Addr} (hd : decode bs pc = .ok (.invokevirtual index, 3)) (w1 : (Cond.methodLink y.cls index z).before a0 Z = true) (w2 : (Cond.declares z).before a0 Z = true) (ws : (Cond.selects CC z z).before a0 Z = true) (wi : (Cond.instanceMethod z).before a0 Z = true) (w3 : (Cond.initialized z.cls).before a0 Z = true) (w4 : (Cond.code z bz mz rz).before a0 Z = true) (hy : z.cls ≠ "java/lang/invoke/MethodHandle" ∧ z.cls ≠ "java/lang/invoke/VarHandle") (E : Exa Z h a CC)
    (con : Con l Z rm z bz mz rz n0 as' h (Ret r h)) (hf : rm.frames + 1 ≤ R.frames) (hl : W + (mz + 11) + rm.locals ≤ R.locals) (ek : k + rm.cells = k') (en : n + rm.slots = n') (hc : k' ≤ R.cells) (hn : n' ≤ R.slots) (hsz : L.size = ml) (pd : parseMethodDescriptor z.desc = some ⟨ps, rt⟩) (hlen : argsL.length = ps.length) (hst : St = argsL.reverse ++ .ref a :: rest) (has : as' = (.ref a :: argsL).toArray) (hW : (rest.map fun v => v.category).sum ≤ W) (hs : r.toList ++ rest = St') (hp : pc + 3 = pc')
    (kt : Go l Z R y bs ml ret n0 Q h k' n' pc' L St') : Go l Z R y bs ml ret n0 Q h k n pc L St := by
  subst hs
  refine callV hd w1 w2 ws wi w3 w4 hy E con hf hl ek en hc hn hsz pd hlen hst has hW hp ?_
  rintro h' v ⟨rfl, rfl⟩
  exact kt
theorem callVF0 {z : MethodName} {bz : ByteArray} {mz : Nat} {rz : Option FieldType} {rm : Room} {as' : Array Value} {r : Option Value} {St' : List Value} {W : Nat} {argsL rest : List Value} {ps : List FieldType} {rt : Option FieldType} {index cnt : Nat} {x' : MethodName} {CC : String} {a : Addr} (hd : decode bs pc = .ok (.invokeinterface index cnt, 5)) (w1 : (Cond.methodLink y.cls index x').before a0 Z = true) (w2 : (Cond.declares x').before a0 Z = true) (wf : (Cond.interfaceMethod x'.cls x'.cls x'.name x'.desc).before a0 Z = true) (ws : (Cond.selects CC x' z).before a0 Z = true) (wi : (Cond.instanceMethod z).before a0 Z = true) (wp : (Cond.publicMethod z).before a0 Z = true) (wu : (Cond.unhidden CC x'.name x'.desc).before a0 Z = true) (wc : (Cond.castable CC x'.cls).before a0 Z = true) (w3 : (Cond.initialized z.cls).before a0 Z = true) (w4 : (Cond.code z bz mz rz).before a0 Z = true) (hy : x'.cls ≠ "java/lang/invoke/MethodHandle" ∧ x'.cls ≠ "java/lang/invoke/VarHandle") (E : Exa Z h a CC)
    (con : Con l Z rm z bz mz rz n0 as' h (Ret r h)) (hf : rm.frames + 1 ≤ R.frames) (hl : W + (mz + 11) + rm.locals ≤ R.locals) (ek : k + rm.cells = k') (en : n + rm.slots = n') (hc : k' ≤ R.cells) (hn : n' ≤ R.slots) (hsz : L.size = ml) (pd : parseMethodDescriptor x'.desc = some ⟨ps, rt⟩) (hlen : argsL.length = ps.length) (hst : St = argsL.reverse ++ .ref a :: rest) (has : as' = (.ref a :: argsL).toArray) (hW : (rest.map fun v => v.category).sum ≤ W) (hs : r.toList ++ rest = St') (hp : pc + 5 = pc')
    (kt : Go l Z R y bs ml ret n0 Q h k' n' pc' L St') : Go l Z R y bs ml ret n0 Q h k n pc L St := by
  subst hs
  refine callVF hd w1 w2 wf ws wi wp wu wc w3 w4 hy E con hf hl ek en hc hn hsz pd hlen hst has hW hp ?_
  rintro h' v ⟨rfl, rfl⟩
  exact kt
end Laws
end Jvm.OwnW
namespace Jvm.Pilot.@@N@@
open Jvm Jvm.ClassFile Sem Op Lib Jvm.Free Jvm.Stand Jvm.LawKit Jvm.RoadKit Bundle Jvm.OwnW Jvm.Pilot.@@N@@.Jvm.D
theorem pd_285bJI29I : parseMethodDescriptor "([JI)I" = some ⟨[(.array .long), .int], some .int⟩ := by decide +kernel
theorem pd_28JJ29J : parseMethodDescriptor "(JJ)J" = some ⟨[.long, .long], some .long⟩ := by decide +kernel
theorem d1_0 : decode jdk_29_method_70_code 0 = .ok (.lload_n 0, 1) := by decide +kernel
theorem d1_1 : decode jdk_29_method_70_code 1 = .ok (.lload_n 2, 1) := by decide +kernel
theorem d1_2 : decode jdk_29_method_70_code 2 = .ok (.lcmp, 1) := by decide +kernel
theorem d1_3 : decode jdk_29_method_70_code 3 = .ok (.ifCond .gt 7, 3) := by decide +kernel
theorem d1_6 : decode jdk_29_method_70_code 6 = .ok (.lload_n 0, 1) := by decide +kernel
theorem d1_7 : decode jdk_29_method_70_code 7 = .ok (.goto 4, 3) := by decide +kernel
theorem d1_10 : decode jdk_29_method_70_code 10 = .ok (.lload_n 2, 1) := by decide +kernel
theorem d1_11 : decode jdk_29_method_70_code 11 = .ok (.lreturn, 1) := by decide +kernel
def f1 (q0 : Int64) (q1 : Int64) : Int64 := (if (0 : Int32) < (lcmpW q0 q1) then q1 else q0)
abbrev GoB1 (l : Launch) (Z : State) (n0 : Nat) (Q : Option Value → Heap → Prop) := Go l Z ({ frames := 0, cells := 0, slots := 0, locals := 0 } : Room) (⟨"java/lang/Math", "min", "(JJ)J"⟩ : MethodName) jdk_29_method_70_code 4 (some .long) n0 Q
theorem ef1 (m : MethodId) (q0 : Int64) (q1 : Int64) : entryFrame m #[(.long q0), (.long q1)] 4 = mkF m 0 #[.val (.long q0), .second, .val (.long q1), .second] [] := by first | (simp [entryFrame, mkF, argsToLocals, Value.category]; done) | rfl
set_option maxRecDepth 65536 in
set_option maxHeartbeats 40000000 in
theorem rm1 (l : Launch) (Z : State) (a0 : Array Value) (hw : ∀ d ∈ tables_1, d.before a0 Z = true) (q0 : Int64) (q1 : Int64) (h0 : Heap) (n0 : Nat) :
    Con l Z ({ frames := 0, cells := 0, slots := 0, locals := 0 } : Room) (⟨"java/lang/Math", "min", "(JJ)J"⟩ : MethodName) jdk_29_method_70_code 4 (some .long) n0 #[(.long q0), (.long q1)] h0 (OwnW.Ret (some (.long (f1 q0 q1))) h0) := by
  refine OwnW.Con.of (by first | decide +kernel | exact plainFor_of_name (by simp [plainName, overriddenIn])) (fun m => ef1 m q0 q1) ?_
  show GoB1 l Z n0 (OwnW.Ret (some (.long (f1 q0 q1))) h0) h0 0 0 0 #[.val (.long q0), .second, .val (.long q1), .second] []
  refine OwnW.lloadN (pc' := 1) d1_0 rfl rfl ?_
  refine OwnW.lloadN (pc' := 2) d1_1 rfl rfl ?_
  refine OwnW.lcmp (pc' := 3) d1_2 rfl ?_
  by_cases hc3 : (0 : Int32) < (lcmpW q0 q1)
  ·
    refine OwnW.ifcY (pc' := 10) d1_3 ((if0 _ _).trans (tlt hc3).2.2.1) (by decide) (by decide) ?_
    refine OwnW.lloadN (pc' := 11) d1_10 rfl rfl ?_
    exact OwnW.retJ d1_11 rfl (by decide) (by decide) (⟨by first | (simp only [f1, if_pos hc3]; done) | (simp only [f1, if_pos hc3]; rfl), rfl⟩)
  ·
    refine OwnW.ifcN (pc' := 6) d1_3 ((if0 _ _).trans (flt hc3).2.2.1) rfl ?_
    refine OwnW.lloadN (pc' := 7) d1_6 rfl rfl ?_
    refine OwnW.goto (pc' := 11) d1_7 (by decide) (by decide) ?_
    exact OwnW.retJ d1_11 rfl (by decide) (by decide) (⟨by first | (simp only [f1, if_neg hc3]; done) | (simp only [f1, if_neg hc3]; rfl), rfl⟩)
theorem d2_0 : decode prog_59_method_3_code 0 = .ok (.iconst 0, 1) := by decide +kernel
theorem d2_1 : decode prog_59_method_3_code 1 = .ok (.istore_n 2, 1) := by decide +kernel
theorem d2_2 : decode prog_59_method_3_code 2 = .ok (.iconst 1, 1) := by decide +kernel
theorem d2_3 : decode prog_59_method_3_code 3 = .ok (.istore_n 3, 1) := by decide +kernel
theorem d2_4 : decode prog_59_method_3_code 4 = .ok (.iload_n 3, 1) := by decide +kernel
theorem d2_5 : decode prog_59_method_3_code 5 = .ok (.aload_n 0, 1) := by decide +kernel
theorem d2_6 : decode prog_59_method_3_code 6 = .ok (.arraylength, 1) := by decide +kernel
theorem d2_7 : decode prog_59_method_3_code 7 = .ok (.if_icmp .ge 21, 3) := by decide +kernel
theorem d2_10 : decode prog_59_method_3_code 10 = .ok (.aload_n 0, 1) := by decide +kernel
theorem d2_11 : decode prog_59_method_3_code 11 = .ok (.iload_n 3, 1) := by decide +kernel
theorem d2_12 : decode prog_59_method_3_code 12 = .ok (.laload, 1) := by decide +kernel
theorem d2_13 : decode prog_59_method_3_code 13 = .ok (.aload_n 0, 1) := by decide +kernel
theorem d2_14 : decode prog_59_method_3_code 14 = .ok (.iload_n 2, 1) := by decide +kernel
theorem d2_15 : decode prog_59_method_3_code 15 = .ok (.laload, 1) := by decide +kernel
theorem d2_16 : decode prog_59_method_3_code 16 = .ok (.lcmp, 1) := by decide +kernel
theorem d2_17 : decode prog_59_method_3_code 17 = .ok (.ifCond .ge 5, 3) := by decide +kernel
theorem d2_20 : decode prog_59_method_3_code 20 = .ok (.iload_n 3, 1) := by decide +kernel
theorem d2_21 : decode prog_59_method_3_code 21 = .ok (.istore_n 2, 1) := by decide +kernel
theorem d2_22 : decode prog_59_method_3_code 22 = .ok (.iinc 3 1, 3) := by decide +kernel
theorem d2_25 : decode prog_59_method_3_code 25 = .ok (.goto (-21), 3) := by decide +kernel
theorem d2_28 : decode prog_59_method_3_code 28 = .ok (.iload_n 1, 1) := by decide +kernel
theorem d2_29 : decode prog_59_method_3_code 29 = .ok (.ifCond .lt 17, 3) := by decide +kernel
theorem d2_32 : decode prog_59_method_3_code 32 = .ok (.aload_n 0, 1) := by decide +kernel
theorem d2_33 : decode prog_59_method_3_code 33 = .ok (.iload_n 1, 1) := by decide +kernel
theorem d2_34 : decode prog_59_method_3_code 34 = .ok (.laload, 1) := by decide +kernel
theorem d2_35 : decode prog_59_method_3_code 35 = .ok (.aload_n 0, 1) := by decide +kernel
theorem d2_36 : decode prog_59_method_3_code 36 = .ok (.iload_n 2, 1) := by decide +kernel
theorem d2_37 : decode prog_59_method_3_code 37 = .ok (.laload, 1) := by decide +kernel
theorem d2_38 : decode prog_59_method_3_code 38 = .ok (.lcmp, 1) := by decide +kernel
theorem d2_39 : decode prog_59_method_3_code 39 = .ok (.ifCond .ne 7, 3) := by decide +kernel
theorem d2_42 : decode prog_59_method_3_code 42 = .ok (.iload_n 1, 1) := by decide +kernel
theorem d2_43 : decode prog_59_method_3_code 43 = .ok (.goto 4, 3) := by decide +kernel
theorem d2_46 : decode prog_59_method_3_code 46 = .ok (.iload_n 2, 1) := by decide +kernel
theorem d2_47 : decode prog_59_method_3_code 47 = .ok (.ireturn, 1) := by decide +kernel
def f2_1_0 (q0 : Addr) (kk : ClassId) (a : Int64) : Int32 := (0 : Int32)
abbrev GoB2_1_0 (l : Launch) (Z : State) (n0 : Nat) (Q : Option Value → Heap → Prop) := Go l Z ({ frames := 0, cells := 0, slots := 0, locals := 0 } : Room) (⟨"com/example/parley/parley/treesearch/ByValue", "firstLeast", "([JI)I"⟩ : MethodName) prog_59_method_3_code 4 (some .int) n0 Q
theorem ef2_1_0 (m : MethodId) (q0 : Addr) : entryFrame m #[(.ref q0), (.int (-1 : Int32))] 4 = mkF m 0 #[.val (.ref q0), .val (.int (-1 : Int32)), .unset, .unset] [] := by first | (simp [entryFrame, mkF, argsToLocals, Value.category]; done) | rfl
set_option maxRecDepth 65536 in
set_option maxHeartbeats 40000000 in
theorem rm2_1_0 (l : Launch) (Z : State) (a0 : Array Value) (hw : ∀ d ∈ tables_1, d.before a0 Z = true) (q0 : Addr) (kk : ClassId) (a : Int64) (h0 : Heap) (n0 : Nat) (V_a : Arv Z h0 q0 kk .long (1 : Int32) [(.long a)] (.long (0 : Int64))) :
    Con l Z ({ frames := 0, cells := 0, slots := 0, locals := 0 } : Room) (⟨"com/example/parley/parley/treesearch/ByValue", "firstLeast", "([JI)I"⟩ : MethodName) prog_59_method_3_code 4 (some .int) n0 #[(.ref q0), (.int (-1 : Int32))] h0 (OwnW.Ret (some (.int (f2_1_0 q0 kk a))) h0) := by
  refine OwnW.Con.of (by first | decide +kernel | exact plainFor_of_name (by simp [plainName, overriddenIn])) (fun m => ef2_1_0 m q0) ?_
  show GoB2_1_0 l Z n0 (OwnW.Ret (some (.int (f2_1_0 q0 kk a))) h0) h0 0 0 0 #[.val (.ref q0), .val (.int (-1 : Int32)), .unset, .unset] []
  refine OwnW.iconst (pc' := 1) (v := (0 : Int32)) d2_0 rfl rfl ?_
  refine OwnW.istoreN (pc' := 2) (L' := #[.val (.ref q0), .val (.int (-1 : Int32)), .val (.int (0 : Int32)), .unset]) d2_1 rfl rfl ?_
  refine OwnW.iconst (pc' := 3) (v := (1 : Int32)) d2_2 rfl rfl ?_
  refine OwnW.istoreN (pc' := 4) (L' := #[.val (.ref q0), .val (.int (-1 : Int32)), .val (.int (0 : Int32)), .val (.int (1 : Int32))]) d2_3 rfl rfl ?_
  refine OwnW.iloadN (pc' := 5) d2_4 rfl rfl ?_
  refine OwnW.aloadN (pc' := 6) d2_5 rfl (rfl) rfl ?_
  obtain ⟨cl1, Ar1, qk1, Sz1, Mn1, Hv1, Gf1⟩ := id V_a
  refine OwnW.alen (pc' := 7) (x := (1 : Int32)) d2_6 Ar1 (len_of Sz1 Mn1) rfl ?_
  refine OwnW.icmpY (pc' := 28) d2_7 (flt (by decide)).2.1 (by decide) (by decide) ?_
  refine OwnW.iloadN (pc' := 29) d2_28 rfl rfl ?_
  refine OwnW.ifcY (pc' := 46) d2_29 ((if0 _ _).trans (tlt (by decide)).1) (by decide) (by decide) ?_
  refine OwnW.iloadN (pc' := 47) d2_46 rfl rfl ?_
  exact OwnW.retI d2_47 rfl (by decide) (by decide) (⟨by first | (simp only [f2_1_0]; done) | (simp only [f2_1_0]; rfl), rfl⟩)
def f2_1_1 (q0 : Addr) (kk : ClassId) (a : Int64) : Int32 := (0 : Int32)
abbrev GoB2_1_1 (l : Launch) (Z : State) (n0 : Nat) (Q : Option Value → Heap → Prop) := Go l Z ({ frames := 0, cells := 0, slots := 0, locals := 0 } : Room) (⟨"com/example/parley/parley/treesearch/ByValue", "firstLeast", "([JI)I"⟩ : MethodName) prog_59_method_3_code 4 (some .int) n0 Q
theorem ef2_1_1 (m : MethodId) (q0 : Addr) : entryFrame m #[(.ref q0), (.int (0 : Int32))] 4 = mkF m 0 #[.val (.ref q0), .val (.int (0 : Int32)), .unset, .unset] [] := by first | (simp [entryFrame, mkF, argsToLocals, Value.category]; done) | rfl
set_option maxRecDepth 65536 in
set_option maxHeartbeats 40000000 in
theorem rm2_1_1 (l : Launch) (Z : State) (a0 : Array Value) (hw : ∀ d ∈ tables_1, d.before a0 Z = true) (q0 : Addr) (kk : ClassId) (a : Int64) (h0 : Heap) (n0 : Nat) (V_a : Arv Z h0 q0 kk .long (1 : Int32) [(.long a)] (.long (0 : Int64))) :
    Con l Z ({ frames := 0, cells := 0, slots := 0, locals := 0 } : Room) (⟨"com/example/parley/parley/treesearch/ByValue", "firstLeast", "([JI)I"⟩ : MethodName) prog_59_method_3_code 4 (some .int) n0 #[(.ref q0), (.int (0 : Int32))] h0 (OwnW.Ret (some (.int (f2_1_1 q0 kk a))) h0) := by
  refine OwnW.Con.of (by first | decide +kernel | exact plainFor_of_name (by simp [plainName, overriddenIn])) (fun m => ef2_1_1 m q0) ?_
  show GoB2_1_1 l Z n0 (OwnW.Ret (some (.int (f2_1_1 q0 kk a))) h0) h0 0 0 0 #[.val (.ref q0), .val (.int (0 : Int32)), .unset, .unset] []
  refine OwnW.iconst (pc' := 1) (v := (0 : Int32)) d2_0 rfl rfl ?_
  refine OwnW.istoreN (pc' := 2) (L' := #[.val (.ref q0), .val (.int (0 : Int32)), .val (.int (0 : Int32)), .unset]) d2_1 rfl rfl ?_
  refine OwnW.iconst (pc' := 3) (v := (1 : Int32)) d2_2 rfl rfl ?_
  refine OwnW.istoreN (pc' := 4) (L' := #[.val (.ref q0), .val (.int (0 : Int32)), .val (.int (0 : Int32)), .val (.int (1 : Int32))]) d2_3 rfl rfl ?_
  refine OwnW.iloadN (pc' := 5) d2_4 rfl rfl ?_
  refine OwnW.aloadN (pc' := 6) d2_5 rfl (rfl) rfl ?_
  obtain ⟨cl1, Ar1, qk1, Sz1, Mn1, Hv1, Gf1⟩ := id V_a
  refine OwnW.alen (pc' := 7) (x := (1 : Int32)) d2_6 Ar1 (len_of Sz1 Mn1) rfl ?_
  refine OwnW.icmpY (pc' := 28) d2_7 (flt (by decide)).2.1 (by decide) (by decide) ?_
  refine OwnW.iloadN (pc' := 29) d2_28 rfl rfl ?_
  refine OwnW.ifcN (pc' := 32) d2_29 ((if0 _ _).trans (flt (by decide)).1) rfl ?_
  refine OwnW.aloadN (pc' := 33) d2_32 rfl (rfl) rfl ?_
  refine OwnW.iloadN (pc' := 34) d2_33 rfl rfl ?_
  obtain ⟨cl2, Ar2, qk2, Sz2, Mn2, Hv2, Gf2⟩ := id V_a
  refine OwnW.laload (pc' := 35) (v := (.long a)) d2_34 Ar2 (inb_of Sz2 ⟨by decide, by decide⟩) (Hv2.at (inb_of Sz2 ⟨by decide, by decide⟩) rfl) rfl ?_
  refine OwnW.aloadN (pc' := 36) d2_35 rfl (rfl) rfl ?_
  refine OwnW.iloadN (pc' := 37) d2_36 rfl rfl ?_
  obtain ⟨cl3, Ar3, qk3, Sz3, Mn3, Hv3, Gf3⟩ := id V_a
  refine OwnW.laload (pc' := 38) (v := (.long a)) d2_37 Ar3 (inb_of Sz3 ⟨by decide, by decide⟩) (Hv3.at (inb_of Sz3 ⟨by decide, by decide⟩) rfl) rfl ?_
  refine OwnW.lcmp (pc' := 39) d2_38 rfl ?_
  by_cases hc39 : (lcmpW a a) = (0 : Int32)
  ·
    refine OwnW.ifcN (pc' := 42) d2_39 ((if0 _ _).trans (teq hc39).2) rfl ?_
    refine OwnW.iloadN (pc' := 43) d2_42 rfl rfl ?_
    refine OwnW.goto (pc' := 47) d2_43 (by decide) (by decide) ?_
    exact OwnW.retI d2_47 rfl (by decide) (by decide) (⟨by first | (simp only [f2_1_1, if_pos hc39]; done) | (simp only [f2_1_1, if_pos hc39]; rfl), rfl⟩)
  ·
    refine OwnW.ifcY (pc' := 46) d2_39 ((if0 _ _).trans (feq hc39).2) (by decide) (by decide) ?_
    refine OwnW.iloadN (pc' := 47) d2_46 rfl rfl ?_
    exact OwnW.retI d2_47 rfl (by decide) (by decide) (⟨by first | (simp only [f2_1_1, if_neg hc39]; done) | (simp only [f2_1_1, if_neg hc39]; rfl), rfl⟩)
def f2_2_0 (q0 : Addr) (kk : ClassId) (a : Int64) (b : Int64) : Int32 := (if (lcmpW b a) < (0 : Int32) then (1 : Int32) else (0 : Int32))
abbrev GoB2_2_0 (l : Launch) (Z : State) (n0 : Nat) (Q : Option Value → Heap → Prop) := Go l Z ({ frames := 0, cells := 0, slots := 0, locals := 0 } : Room) (⟨"com/example/parley/parley/treesearch/ByValue", "firstLeast", "([JI)I"⟩ : MethodName) prog_59_method_3_code 4 (some .int) n0 Q
theorem ef2_2_0 (m : MethodId) (q0 : Addr) : entryFrame m #[(.ref q0), (.int (-1 : Int32))] 4 = mkF m 0 #[.val (.ref q0), .val (.int (-1 : Int32)), .unset, .unset] [] := by first | (simp [entryFrame, mkF, argsToLocals, Value.category]; done) | rfl
set_option maxRecDepth 65536 in
set_option maxHeartbeats 40000000 in
theorem rm2_2_0 (l : Launch) (Z : State) (a0 : Array Value) (hw : ∀ d ∈ tables_1, d.before a0 Z = true) (q0 : Addr) (kk : ClassId) (a : Int64) (b : Int64) (h0 : Heap) (n0 : Nat) (V_a : Arv Z h0 q0 kk .long (2 : Int32) [(.long a), (.long b)] (.long (0 : Int64))) :
    Con l Z ({ frames := 0, cells := 0, slots := 0, locals := 0 } : Room) (⟨"com/example/parley/parley/treesearch/ByValue", "firstLeast", "([JI)I"⟩ : MethodName) prog_59_method_3_code 4 (some .int) n0 #[(.ref q0), (.int (-1 : Int32))] h0 (OwnW.Ret (some (.int (f2_2_0 q0 kk a b))) h0) := by
  refine OwnW.Con.of (by first | decide +kernel | exact plainFor_of_name (by simp [plainName, overriddenIn])) (fun m => ef2_2_0 m q0) ?_
  show GoB2_2_0 l Z n0 (OwnW.Ret (some (.int (f2_2_0 q0 kk a b))) h0) h0 0 0 0 #[.val (.ref q0), .val (.int (-1 : Int32)), .unset, .unset] []
  refine OwnW.iconst (pc' := 1) (v := (0 : Int32)) d2_0 rfl rfl ?_
  refine OwnW.istoreN (pc' := 2) (L' := #[.val (.ref q0), .val (.int (-1 : Int32)), .val (.int (0 : Int32)), .unset]) d2_1 rfl rfl ?_
  refine OwnW.iconst (pc' := 3) (v := (1 : Int32)) d2_2 rfl rfl ?_
  refine OwnW.istoreN (pc' := 4) (L' := #[.val (.ref q0), .val (.int (-1 : Int32)), .val (.int (0 : Int32)), .val (.int (1 : Int32))]) d2_3 rfl rfl ?_
  refine OwnW.iloadN (pc' := 5) d2_4 rfl rfl ?_
  refine OwnW.aloadN (pc' := 6) d2_5 rfl (rfl) rfl ?_
  obtain ⟨cl1, Ar1, qk1, Sz1, Mn1, Hv1, Gf1⟩ := id V_a
  refine OwnW.alen (pc' := 7) (x := (2 : Int32)) d2_6 Ar1 (len_of Sz1 Mn1) rfl ?_
  refine OwnW.icmpN (pc' := 10) d2_7 (tlt (by decide)).2.1 rfl ?_
  refine OwnW.aloadN (pc' := 11) d2_10 rfl (rfl) rfl ?_
  refine OwnW.iloadN (pc' := 12) d2_11 rfl rfl ?_
  obtain ⟨cl2, Ar2, qk2, Sz2, Mn2, Hv2, Gf2⟩ := id V_a
  refine OwnW.laload (pc' := 13) (v := (.long b)) d2_12 Ar2 (inb_of Sz2 ⟨by decide, by decide⟩) (Hv2.at (inb_of Sz2 ⟨by decide, by decide⟩) rfl) rfl ?_
  refine OwnW.aloadN (pc' := 14) d2_13 rfl (rfl) rfl ?_
  refine OwnW.iloadN (pc' := 15) d2_14 rfl rfl ?_
  obtain ⟨cl3, Ar3, qk3, Sz3, Mn3, Hv3, Gf3⟩ := id V_a
  refine OwnW.laload (pc' := 16) (v := (.long a)) d2_15 Ar3 (inb_of Sz3 ⟨by decide, by decide⟩) (Hv3.at (inb_of Sz3 ⟨by decide, by decide⟩) rfl) rfl ?_
  refine OwnW.lcmp (pc' := 17) d2_16 rfl ?_
  by_cases hc17 : (lcmpW b a) < (0 : Int32)
  ·
    refine OwnW.ifcN (pc' := 20) d2_17 ((if0 _ _).trans (tlt hc17).2.1) rfl ?_
    refine OwnW.iloadN (pc' := 21) d2_20 rfl rfl ?_
    refine OwnW.istoreN (pc' := 22) (L' := #[.val (.ref q0), .val (.int (-1 : Int32)), .val (.int (1 : Int32)), .val (.int (1 : Int32))]) d2_21 rfl rfl ?_
    refine OwnW.iinc (pc' := 25) (L' := #[.val (.ref q0), .val (.int (-1 : Int32)), .val (.int (1 : Int32)), .val (.int (2 : Int32))]) (d := (1 : Int32)) d2_22 rfl rfl rfl rfl ?_
    refine OwnW.goto (pc' := 4) d2_25 (by decide) (by decide) ?_
    refine OwnW.iloadN (pc' := 5) d2_4 rfl rfl ?_
    refine OwnW.aloadN (pc' := 6) d2_5 rfl (rfl) rfl ?_
    obtain ⟨cl4, Ar4, qk4, Sz4, Mn4, Hv4, Gf4⟩ := id V_a
    refine OwnW.alen (pc' := 7) (x := (2 : Int32)) d2_6 Ar4 (len_of Sz4 Mn4) rfl ?_
    refine OwnW.icmpY (pc' := 28) d2_7 (flt (by decide)).2.1 (by decide) (by decide) ?_
    refine OwnW.iloadN (pc' := 29) d2_28 rfl rfl ?_
    refine OwnW.ifcY (pc' := 46) d2_29 ((if0 _ _).trans (tlt (by decide)).1) (by decide) (by decide) ?_
    refine OwnW.iloadN (pc' := 47) d2_46 rfl rfl ?_
    exact OwnW.retI d2_47 rfl (by decide) (by decide) (⟨by first | (simp only [f2_2_0, if_pos hc17]; done) | (simp only [f2_2_0, if_pos hc17]; rfl), rfl⟩)
  ·
    refine OwnW.ifcY (pc' := 22) d2_17 ((if0 _ _).trans (flt hc17).2.1) (by decide) (by decide) ?_
    refine OwnW.iinc (pc' := 25) (L' := #[.val (.ref q0), .val (.int (-1 : Int32)), .val (.int (0 : Int32)), .val (.int (2 : Int32))]) (d := (1 : Int32)) d2_22 rfl rfl rfl rfl ?_
    refine OwnW.goto (pc' := 4) d2_25 (by decide) (by decide) ?_
    refine OwnW.iloadN (pc' := 5) d2_4 rfl rfl ?_
    refine OwnW.aloadN (pc' := 6) d2_5 rfl (rfl) rfl ?_
    obtain ⟨cl5, Ar5, qk5, Sz5, Mn5, Hv5, Gf5⟩ := id V_a
    refine OwnW.alen (pc' := 7) (x := (2 : Int32)) d2_6 Ar5 (len_of Sz5 Mn5) rfl ?_
    refine OwnW.icmpY (pc' := 28) d2_7 (flt (by decide)).2.1 (by decide) (by decide) ?_
    refine OwnW.iloadN (pc' := 29) d2_28 rfl rfl ?_
    refine OwnW.ifcY (pc' := 46) d2_29 ((if0 _ _).trans (tlt (by decide)).1) (by decide) (by decide) ?_
    refine OwnW.iloadN (pc' := 47) d2_46 rfl rfl ?_
    exact OwnW.retI d2_47 rfl (by decide) (by decide) (⟨by first | (simp only [f2_2_0, if_neg hc17]; done) | (simp only [f2_2_0, if_neg hc17]; rfl), rfl⟩)
def f2_2_1 (q0 : Addr) (kk : ClassId) (a : Int64) (b : Int64) : Int32 := (if (lcmpW b a) < (0 : Int32) then (if (lcmpW a b) = (0 : Int32) then (0 : Int32) else (1 : Int32)) else (0 : Int32))
abbrev GoB2_2_1 (l : Launch) (Z : State) (n0 : Nat) (Q : Option Value → Heap → Prop) := Go l Z ({ frames := 0, cells := 0, slots := 0, locals := 0 } : Room) (⟨"com/example/parley/parley/treesearch/ByValue", "firstLeast", "([JI)I"⟩ : MethodName) prog_59_method_3_code 4 (some .int) n0 Q
theorem ef2_2_1 (m : MethodId) (q0 : Addr) : entryFrame m #[(.ref q0), (.int (0 : Int32))] 4 = mkF m 0 #[.val (.ref q0), .val (.int (0 : Int32)), .unset, .unset] [] := by first | (simp [entryFrame, mkF, argsToLocals, Value.category]; done) | rfl
set_option maxRecDepth 65536 in
set_option maxHeartbeats 40000000 in
theorem rm2_2_1 (l : Launch) (Z : State) (a0 : Array Value) (hw : ∀ d ∈ tables_1, d.before a0 Z = true) (q0 : Addr) (kk : ClassId) (a : Int64) (b : Int64) (h0 : Heap) (n0 : Nat) (V_a : Arv Z h0 q0 kk .long (2 : Int32) [(.long a), (.long b)] (.long (0 : Int64))) :
    Con l Z ({ frames := 0, cells := 0, slots := 0, locals := 0 } : Room) (⟨"com/example/parley/parley/treesearch/ByValue", "firstLeast", "([JI)I"⟩ : MethodName) prog_59_method_3_code 4 (some .int) n0 #[(.ref q0), (.int (0 : Int32))] h0 (OwnW.Ret (some (.int (f2_2_1 q0 kk a b))) h0) := by
  refine OwnW.Con.of (by first | decide +kernel | exact plainFor_of_name (by simp [plainName, overriddenIn])) (fun m => ef2_2_1 m q0) ?_
  show GoB2_2_1 l Z n0 (OwnW.Ret (some (.int (f2_2_1 q0 kk a b))) h0) h0 0 0 0 #[.val (.ref q0), .val (.int (0 : Int32)), .unset, .unset] []
  refine OwnW.iconst (pc' := 1) (v := (0 : Int32)) d2_0 rfl rfl ?_
  refine OwnW.istoreN (pc' := 2) (L' := #[.val (.ref q0), .val (.int (0 : Int32)), .val (.int (0 : Int32)), .unset]) d2_1 rfl rfl ?_
  refine OwnW.iconst (pc' := 3) (v := (1 : Int32)) d2_2 rfl rfl ?_
  refine OwnW.istoreN (pc' := 4) (L' := #[.val (.ref q0), .val (.int (0 : Int32)), .val (.int (0 : Int32)), .val (.int (1 : Int32))]) d2_3 rfl rfl ?_
  refine OwnW.iloadN (pc' := 5) d2_4 rfl rfl ?_
  refine OwnW.aloadN (pc' := 6) d2_5 rfl (rfl) rfl ?_
  obtain ⟨cl1, Ar1, qk1, Sz1, Mn1, Hv1, Gf1⟩ := id V_a
  refine OwnW.alen (pc' := 7) (x := (2 : Int32)) d2_6 Ar1 (len_of Sz1 Mn1) rfl ?_
  refine OwnW.icmpN (pc' := 10) d2_7 (tlt (by decide)).2.1 rfl ?_
  refine OwnW.aloadN (pc' := 11) d2_10 rfl (rfl) rfl ?_
  refine OwnW.iloadN (pc' := 12) d2_11 rfl rfl ?_
  obtain ⟨cl2, Ar2, qk2, Sz2, Mn2, Hv2, Gf2⟩ := id V_a
  refine OwnW.laload (pc' := 13) (v := (.long b)) d2_12 Ar2 (inb_of Sz2 ⟨by decide, by decide⟩) (Hv2.at (inb_of Sz2 ⟨by decide, by decide⟩) rfl) rfl ?_
  refine OwnW.aloadN (pc' := 14) d2_13 rfl (rfl) rfl ?_
  refine OwnW.iloadN (pc' := 15) d2_14 rfl rfl ?_
  obtain ⟨cl3, Ar3, qk3, Sz3, Mn3, Hv3, Gf3⟩ := id V_a
  refine OwnW.laload (pc' := 16) (v := (.long a)) d2_15 Ar3 (inb_of Sz3 ⟨by decide, by decide⟩) (Hv3.at (inb_of Sz3 ⟨by decide, by decide⟩) rfl) rfl ?_
  refine OwnW.lcmp (pc' := 17) d2_16 rfl ?_
  by_cases hc17 : (lcmpW b a) < (0 : Int32)
  ·
    refine OwnW.ifcN (pc' := 20) d2_17 ((if0 _ _).trans (tlt hc17).2.1) rfl ?_
    refine OwnW.iloadN (pc' := 21) d2_20 rfl rfl ?_
    refine OwnW.istoreN (pc' := 22) (L' := #[.val (.ref q0), .val (.int (0 : Int32)), .val (.int (1 : Int32)), .val (.int (1 : Int32))]) d2_21 rfl rfl ?_
    refine OwnW.iinc (pc' := 25) (L' := #[.val (.ref q0), .val (.int (0 : Int32)), .val (.int (1 : Int32)), .val (.int (2 : Int32))]) (d := (1 : Int32)) d2_22 rfl rfl rfl rfl ?_
    refine OwnW.goto (pc' := 4) d2_25 (by decide) (by decide) ?_
    refine OwnW.iloadN (pc' := 5) d2_4 rfl rfl ?_
    refine OwnW.aloadN (pc' := 6) d2_5 rfl (rfl) rfl ?_
    obtain ⟨cl4, Ar4, qk4, Sz4, Mn4, Hv4, Gf4⟩ := id V_a
    refine OwnW.alen (pc' := 7) (x := (2 : Int32)) d2_6 Ar4 (len_of Sz4 Mn4) rfl ?_
    refine OwnW.icmpY (pc' := 28) d2_7 (flt (by decide)).2.1 (by decide) (by decide) ?_
    refine OwnW.iloadN (pc' := 29) d2_28 rfl rfl ?_
    refine OwnW.ifcN (pc' := 32) d2_29 ((if0 _ _).trans (flt (by decide)).1) rfl ?_
    refine OwnW.aloadN (pc' := 33) d2_32 rfl (rfl) rfl ?_
    refine OwnW.iloadN (pc' := 34) d2_33 rfl rfl ?_
    obtain ⟨cl5, Ar5, qk5, Sz5, Mn5, Hv5, Gf5⟩ := id V_a
    refine OwnW.laload (pc' := 35) (v := (.long a)) d2_34 Ar5 (inb_of Sz5 ⟨by decide, by decide⟩) (Hv5.at (inb_of Sz5 ⟨by decide, by decide⟩) rfl) rfl ?_
    refine OwnW.aloadN (pc' := 36) d2_35 rfl (rfl) rfl ?_
    refine OwnW.iloadN (pc' := 37) d2_36 rfl rfl ?_
    obtain ⟨cl6, Ar6, qk6, Sz6, Mn6, Hv6, Gf6⟩ := id V_a
    refine OwnW.laload (pc' := 38) (v := (.long b)) d2_37 Ar6 (inb_of Sz6 ⟨by decide, by decide⟩) (Hv6.at (inb_of Sz6 ⟨by decide, by decide⟩) rfl) rfl ?_
    refine OwnW.lcmp (pc' := 39) d2_38 rfl ?_
    by_cases hc39 : (lcmpW a b) = (0 : Int32)
    ·
      refine OwnW.ifcN (pc' := 42) d2_39 ((if0 _ _).trans (teq hc39).2) rfl ?_
      refine OwnW.iloadN (pc' := 43) d2_42 rfl rfl ?_
      refine OwnW.goto (pc' := 47) d2_43 (by decide) (by decide) ?_
      exact OwnW.retI d2_47 rfl (by decide) (by decide) (⟨by first | (simp only [f2_2_1, if_pos hc17, if_pos hc39]; done) | (simp only [f2_2_1, if_pos hc17, if_pos hc39]; rfl), rfl⟩)
    ·
      refine OwnW.ifcY (pc' := 46) d2_39 ((if0 _ _).trans (feq hc39).2) (by decide) (by decide) ?_
      refine OwnW.iloadN (pc' := 47) d2_46 rfl rfl ?_
      exact OwnW.retI d2_47 rfl (by decide) (by decide) (⟨by first | (simp only [f2_2_1, if_pos hc17, if_neg hc39]; done) | (simp only [f2_2_1, if_pos hc17, if_neg hc39]; rfl), rfl⟩)
  ·
    refine OwnW.ifcY (pc' := 22) d2_17 ((if0 _ _).trans (flt hc17).2.1) (by decide) (by decide) ?_
    refine OwnW.iinc (pc' := 25) (L' := #[.val (.ref q0), .val (.int (0 : Int32)), .val (.int (0 : Int32)), .val (.int (2 : Int32))]) (d := (1 : Int32)) d2_22 rfl rfl rfl rfl ?_
    refine OwnW.goto (pc' := 4) d2_25 (by decide) (by decide) ?_
    refine OwnW.iloadN (pc' := 5) d2_4 rfl rfl ?_
    refine OwnW.aloadN (pc' := 6) d2_5 rfl (rfl) rfl ?_
    obtain ⟨cl7, Ar7, qk7, Sz7, Mn7, Hv7, Gf7⟩ := id V_a
    refine OwnW.alen (pc' := 7) (x := (2 : Int32)) d2_6 Ar7 (len_of Sz7 Mn7) rfl ?_
    refine OwnW.icmpY (pc' := 28) d2_7 (flt (by decide)).2.1 (by decide) (by decide) ?_
    refine OwnW.iloadN (pc' := 29) d2_28 rfl rfl ?_
    refine OwnW.ifcN (pc' := 32) d2_29 ((if0 _ _).trans (flt (by decide)).1) rfl ?_
    refine OwnW.aloadN (pc' := 33) d2_32 rfl (rfl) rfl ?_
    refine OwnW.iloadN (pc' := 34) d2_33 rfl rfl ?_
    obtain ⟨cl8, Ar8, qk8, Sz8, Mn8, Hv8, Gf8⟩ := id V_a
    refine OwnW.laload (pc' := 35) (v := (.long a)) d2_34 Ar8 (inb_of Sz8 ⟨by decide, by decide⟩) (Hv8.at (inb_of Sz8 ⟨by decide, by decide⟩) rfl) rfl ?_
    refine OwnW.aloadN (pc' := 36) d2_35 rfl (rfl) rfl ?_
    refine OwnW.iloadN (pc' := 37) d2_36 rfl rfl ?_
    obtain ⟨cl9, Ar9, qk9, Sz9, Mn9, Hv9, Gf9⟩ := id V_a
    refine OwnW.laload (pc' := 38) (v := (.long a)) d2_37 Ar9 (inb_of Sz9 ⟨by decide, by decide⟩) (Hv9.at (inb_of Sz9 ⟨by decide, by decide⟩) rfl) rfl ?_
    refine OwnW.lcmp (pc' := 39) d2_38 rfl ?_
    by_cases hc39 : (lcmpW a a) = (0 : Int32)
    ·
      refine OwnW.ifcN (pc' := 42) d2_39 ((if0 _ _).trans (teq hc39).2) rfl ?_
      refine OwnW.iloadN (pc' := 43) d2_42 rfl rfl ?_
      refine OwnW.goto (pc' := 47) d2_43 (by decide) (by decide) ?_
      exact OwnW.retI d2_47 rfl (by decide) (by decide) (⟨by first | (simp only [f2_2_1, if_neg hc17, if_pos hc39]; done) | (simp only [f2_2_1, if_neg hc17, if_pos hc39]; rfl), rfl⟩)
    ·
      refine OwnW.ifcY (pc' := 46) d2_39 ((if0 _ _).trans (feq hc39).2) (by decide) (by decide) ?_
      refine OwnW.iloadN (pc' := 47) d2_46 rfl rfl ?_
      exact OwnW.retI d2_47 rfl (by decide) (by decide) (⟨by first | (simp only [f2_2_1, if_neg hc17, if_neg hc39]; done) | (simp only [f2_2_1, if_neg hc17, if_neg hc39]; rfl), rfl⟩)
def f2_2_2 (q0 : Addr) (kk : ClassId) (a : Int64) (b : Int64) : Int32 := (if (lcmpW b a) < (0 : Int32) then (1 : Int32) else (if (lcmpW b a) = (0 : Int32) then (1 : Int32) else (0 : Int32)))
abbrev GoB2_2_2 (l : Launch) (Z : State) (n0 : Nat) (Q : Option Value → Heap → Prop) := Go l Z ({ frames := 0, cells := 0, slots := 0, locals := 0 } : Room) (⟨"com/example/parley/parley/treesearch/ByValue", "firstLeast", "([JI)I"⟩ : MethodName) prog_59_method_3_code 4 (some .int) n0 Q
theorem ef2_2_2 (m : MethodId) (q0 : Addr) : entryFrame m #[(.ref q0), (.int (1 : Int32))] 4 = mkF m 0 #[.val (.ref q0), .val (.int (1 : Int32)), .unset, .unset] [] := by first | (simp [entryFrame, mkF, argsToLocals, Value.category]; done) | rfl
set_option maxRecDepth 65536 in
set_option maxHeartbeats 40000000 in
theorem rm2_2_2 (l : Launch) (Z : State) (a0 : Array Value) (hw : ∀ d ∈ tables_1, d.before a0 Z = true) (q0 : Addr) (kk : ClassId) (a : Int64) (b : Int64) (h0 : Heap) (n0 : Nat) (V_a : Arv Z h0 q0 kk .long (2 : Int32) [(.long a), (.long b)] (.long (0 : Int64))) :
    Con l Z ({ frames := 0, cells := 0, slots := 0, locals := 0 } : Room) (⟨"com/example/parley/parley/treesearch/ByValue", "firstLeast", "([JI)I"⟩ : MethodName) prog_59_method_3_code 4 (some .int) n0 #[(.ref q0), (.int (1 : Int32))] h0 (OwnW.Ret (some (.int (f2_2_2 q0 kk a b))) h0) := by
  refine OwnW.Con.of (by first | decide +kernel | exact plainFor_of_name (by simp [plainName, overriddenIn])) (fun m => ef2_2_2 m q0) ?_
  show GoB2_2_2 l Z n0 (OwnW.Ret (some (.int (f2_2_2 q0 kk a b))) h0) h0 0 0 0 #[.val (.ref q0), .val (.int (1 : Int32)), .unset, .unset] []
  refine OwnW.iconst (pc' := 1) (v := (0 : Int32)) d2_0 rfl rfl ?_
  refine OwnW.istoreN (pc' := 2) (L' := #[.val (.ref q0), .val (.int (1 : Int32)), .val (.int (0 : Int32)), .unset]) d2_1 rfl rfl ?_
  refine OwnW.iconst (pc' := 3) (v := (1 : Int32)) d2_2 rfl rfl ?_
  refine OwnW.istoreN (pc' := 4) (L' := #[.val (.ref q0), .val (.int (1 : Int32)), .val (.int (0 : Int32)), .val (.int (1 : Int32))]) d2_3 rfl rfl ?_
  refine OwnW.iloadN (pc' := 5) d2_4 rfl rfl ?_
  refine OwnW.aloadN (pc' := 6) d2_5 rfl (rfl) rfl ?_
  obtain ⟨cl1, Ar1, qk1, Sz1, Mn1, Hv1, Gf1⟩ := id V_a
  refine OwnW.alen (pc' := 7) (x := (2 : Int32)) d2_6 Ar1 (len_of Sz1 Mn1) rfl ?_
  refine OwnW.icmpN (pc' := 10) d2_7 (tlt (by decide)).2.1 rfl ?_
  refine OwnW.aloadN (pc' := 11) d2_10 rfl (rfl) rfl ?_
  refine OwnW.iloadN (pc' := 12) d2_11 rfl rfl ?_
  obtain ⟨cl2, Ar2, qk2, Sz2, Mn2, Hv2, Gf2⟩ := id V_a
  refine OwnW.laload (pc' := 13) (v := (.long b)) d2_12 Ar2 (inb_of Sz2 ⟨by decide, by decide⟩) (Hv2.at (inb_of Sz2 ⟨by decide, by decide⟩) rfl) rfl ?_
  refine OwnW.aloadN (pc' := 14) d2_13 rfl (rfl) rfl ?_
  refine OwnW.iloadN (pc' := 15) d2_14 rfl rfl ?_
  obtain ⟨cl3, Ar3, qk3, Sz3, Mn3, Hv3, Gf3⟩ := id V_a
  refine OwnW.laload (pc' := 16) (v := (.long a)) d2_15 Ar3 (inb_of Sz3 ⟨by decide, by decide⟩) (Hv3.at (inb_of Sz3 ⟨by decide, by decide⟩) rfl) rfl ?_
  refine OwnW.lcmp (pc' := 17) d2_16 rfl ?_
  by_cases hc17 : (lcmpW b a) < (0 : Int32)
  ·
    refine OwnW.ifcN (pc' := 20) d2_17 ((if0 _ _).trans (tlt hc17).2.1) rfl ?_
    refine OwnW.iloadN (pc' := 21) d2_20 rfl rfl ?_
    refine OwnW.istoreN (pc' := 22) (L' := #[.val (.ref q0), .val (.int (1 : Int32)), .val (.int (1 : Int32)), .val (.int (1 : Int32))]) d2_21 rfl rfl ?_
    refine OwnW.iinc (pc' := 25) (L' := #[.val (.ref q0), .val (.int (1 : Int32)), .val (.int (1 : Int32)), .val (.int (2 : Int32))]) (d := (1 : Int32)) d2_22 rfl rfl rfl rfl ?_
    refine OwnW.goto (pc' := 4) d2_25 (by decide) (by decide) ?_
    refine OwnW.iloadN (pc' := 5) d2_4 rfl rfl ?_
    refine OwnW.aloadN (pc' := 6) d2_5 rfl (rfl) rfl ?_
    obtain ⟨cl4, Ar4, qk4, Sz4, Mn4, Hv4, Gf4⟩ := id V_a
    refine OwnW.alen (pc' := 7) (x := (2 : Int32)) d2_6 Ar4 (len_of Sz4 Mn4) rfl ?_
    refine OwnW.icmpY (pc' := 28) d2_7 (flt (by decide)).2.1 (by decide) (by decide) ?_
    refine OwnW.iloadN (pc' := 29) d2_28 rfl rfl ?_
    refine OwnW.ifcN (pc' := 32) d2_29 ((if0 _ _).trans (flt (by decide)).1) rfl ?_
    refine OwnW.aloadN (pc' := 33) d2_32 rfl (rfl) rfl ?_
    refine OwnW.iloadN (pc' := 34) d2_33 rfl rfl ?_
    obtain ⟨cl5, Ar5, qk5, Sz5, Mn5, Hv5, Gf5⟩ := id V_a
    refine OwnW.laload (pc' := 35) (v := (.long b)) d2_34 Ar5 (inb_of Sz5 ⟨by decide, by decide⟩) (Hv5.at (inb_of Sz5 ⟨by decide, by decide⟩) rfl) rfl ?_
    refine OwnW.aloadN (pc' := 36) d2_35 rfl (rfl) rfl ?_
    refine OwnW.iloadN (pc' := 37) d2_36 rfl rfl ?_
    obtain ⟨cl6, Ar6, qk6, Sz6, Mn6, Hv6, Gf6⟩ := id V_a
    refine OwnW.laload (pc' := 38) (v := (.long b)) d2_37 Ar6 (inb_of Sz6 ⟨by decide, by decide⟩) (Hv6.at (inb_of Sz6 ⟨by decide, by decide⟩) rfl) rfl ?_
    refine OwnW.lcmp (pc' := 39) d2_38 rfl ?_
    by_cases hc39 : (lcmpW b b) = (0 : Int32)
    ·
      refine OwnW.ifcN (pc' := 42) d2_39 ((if0 _ _).trans (teq hc39).2) rfl ?_
      refine OwnW.iloadN (pc' := 43) d2_42 rfl rfl ?_
      refine OwnW.goto (pc' := 47) d2_43 (by decide) (by decide) ?_
      exact OwnW.retI d2_47 rfl (by decide) (by decide) (⟨by first | (simp only [f2_2_2, if_pos hc17, if_pos hc39]; done) | (simp only [f2_2_2, if_pos hc17, if_pos hc39]; rfl), rfl⟩)
    ·
      refine OwnW.ifcY (pc' := 46) d2_39 ((if0 _ _).trans (feq hc39).2) (by decide) (by decide) ?_
      refine OwnW.iloadN (pc' := 47) d2_46 rfl rfl ?_
      exact OwnW.retI d2_47 rfl (by decide) (by decide) (⟨by first | (simp only [f2_2_2, if_pos hc17, if_neg hc39]; done) | (simp only [f2_2_2, if_pos hc17, if_neg hc39]; rfl), rfl⟩)
  ·
    refine OwnW.ifcY (pc' := 22) d2_17 ((if0 _ _).trans (flt hc17).2.1) (by decide) (by decide) ?_
    refine OwnW.iinc (pc' := 25) (L' := #[.val (.ref q0), .val (.int (1 : Int32)), .val (.int (0 : Int32)), .val (.int (2 : Int32))]) (d := (1 : Int32)) d2_22 rfl rfl rfl rfl ?_
    refine OwnW.goto (pc' := 4) d2_25 (by decide) (by decide) ?_
    refine OwnW.iloadN (pc' := 5) d2_4 rfl rfl ?_
    refine OwnW.aloadN (pc' := 6) d2_5 rfl (rfl) rfl ?_
    obtain ⟨cl7, Ar7, qk7, Sz7, Mn7, Hv7, Gf7⟩ := id V_a
    refine OwnW.alen (pc' := 7) (x := (2 : Int32)) d2_6 Ar7 (len_of Sz7 Mn7) rfl ?_
    refine OwnW.icmpY (pc' := 28) d2_7 (flt (by decide)).2.1 (by decide) (by decide) ?_
    refine OwnW.iloadN (pc' := 29) d2_28 rfl rfl ?_
    refine OwnW.ifcN (pc' := 32) d2_29 ((if0 _ _).trans (flt (by decide)).1) rfl ?_
    refine OwnW.aloadN (pc' := 33) d2_32 rfl (rfl) rfl ?_
    refine OwnW.iloadN (pc' := 34) d2_33 rfl rfl ?_
    obtain ⟨cl8, Ar8, qk8, Sz8, Mn8, Hv8, Gf8⟩ := id V_a
    refine OwnW.laload (pc' := 35) (v := (.long b)) d2_34 Ar8 (inb_of Sz8 ⟨by decide, by decide⟩) (Hv8.at (inb_of Sz8 ⟨by decide, by decide⟩) rfl) rfl ?_
    refine OwnW.aloadN (pc' := 36) d2_35 rfl (rfl) rfl ?_
    refine OwnW.iloadN (pc' := 37) d2_36 rfl rfl ?_
    obtain ⟨cl9, Ar9, qk9, Sz9, Mn9, Hv9, Gf9⟩ := id V_a
    refine OwnW.laload (pc' := 38) (v := (.long a)) d2_37 Ar9 (inb_of Sz9 ⟨by decide, by decide⟩) (Hv9.at (inb_of Sz9 ⟨by decide, by decide⟩) rfl) rfl ?_
    refine OwnW.lcmp (pc' := 39) d2_38 rfl ?_
    by_cases hc39 : (lcmpW b a) = (0 : Int32)
    ·
      refine OwnW.ifcN (pc' := 42) d2_39 ((if0 _ _).trans (teq hc39).2) rfl ?_
      refine OwnW.iloadN (pc' := 43) d2_42 rfl rfl ?_
      refine OwnW.goto (pc' := 47) d2_43 (by decide) (by decide) ?_
      exact OwnW.retI d2_47 rfl (by decide) (by decide) (⟨by first | (simp only [f2_2_2, if_neg hc17, if_pos hc39]; done) | (simp only [f2_2_2, if_neg hc17, if_pos hc39]; rfl), rfl⟩)
    ·
      refine OwnW.ifcY (pc' := 46) d2_39 ((if0 _ _).trans (feq hc39).2) (by decide) (by decide) ?_
      refine OwnW.iloadN (pc' := 47) d2_46 rfl rfl ?_
      exact OwnW.retI d2_47 rfl (by decide) (by decide) (⟨by first | (simp only [f2_2_2, if_neg hc17, if_neg hc39]; done) | (simp only [f2_2_2, if_neg hc17, if_neg hc39]; rfl), rfl⟩)
def f2_3_0 (q0 : Addr) (kk : ClassId) (a : Int64) (b : Int64) (c : Int64) : Int32 := (if (lcmpW b a) < (0 : Int32) then (if (lcmpW c b) < (0 : Int32) then (2 : Int32) else (1 : Int32)) else (if (lcmpW c a) < (0 : Int32) then (2 : Int32) else (0 : Int32)))
abbrev GoB2_3_0 (l : Launch) (Z : State) (n0 : Nat) (Q : Option Value → Heap → Prop) := Go l Z ({ frames := 0, cells := 0, slots := 0, locals := 0 } : Room) (⟨"com/example/parley/parley/treesearch/ByValue", "firstLeast", "([JI)I"⟩ : MethodName) prog_59_method_3_code 4 (some .int) n0 Q
theorem ef2_3_0 (m : MethodId) (q0 : Addr) : entryFrame m #[(.ref q0), (.int (-1 : Int32))] 4 = mkF m 0 #[.val (.ref q0), .val (.int (-1 : Int32)), .unset, .unset] [] := by first | (simp [entryFrame, mkF, argsToLocals, Value.category]; done) | rfl
set_option maxRecDepth 65536 in
set_option maxHeartbeats 40000000 in
theorem rm2_3_0 (l : Launch) (Z : State) (a0 : Array Value) (hw : ∀ d ∈ tables_1, d.before a0 Z = true) (q0 : Addr) (kk : ClassId) (a : Int64) (b : Int64) (c : Int64) (h0 : Heap) (n0 : Nat) (V_a : Arv Z h0 q0 kk .long (3 : Int32) [(.long a), (.long b), (.long c)] (.long (0 : Int64))) :
    Con l Z ({ frames := 0, cells := 0, slots := 0, locals := 0 } : Room) (⟨"com/example/parley/parley/treesearch/ByValue", "firstLeast", "([JI)I"⟩ : MethodName) prog_59_method_3_code 4 (some .int) n0 #[(.ref q0), (.int (-1 : Int32))] h0 (OwnW.Ret (some (.int (f2_3_0 q0 kk a b c))) h0) := by
  refine OwnW.Con.of (by first | decide +kernel | exact plainFor_of_name (by simp [plainName, overriddenIn])) (fun m => ef2_3_0 m q0) ?_
  show GoB2_3_0 l Z n0 (OwnW.Ret (some (.int (f2_3_0 q0 kk a b c))) h0) h0 0 0 0 #[.val (.ref q0), .val (.int (-1 : Int32)), .unset, .unset] []
  refine OwnW.iconst (pc' := 1) (v := (0 : Int32)) d2_0 rfl rfl ?_
  refine OwnW.istoreN (pc' := 2) (L' := #[.val (.ref q0), .val (.int (-1 : Int32)), .val (.int (0 : Int32)), .unset]) d2_1 rfl rfl ?_
  refine OwnW.iconst (pc' := 3) (v := (1 : Int32)) d2_2 rfl rfl ?_
  refine OwnW.istoreN (pc' := 4) (L' := #[.val (.ref q0), .val (.int (-1 : Int32)), .val (.int (0 : Int32)), .val (.int (1 : Int32))]) d2_3 rfl rfl ?_
  refine OwnW.iloadN (pc' := 5) d2_4 rfl rfl ?_
  refine OwnW.aloadN (pc' := 6) d2_5 rfl (rfl) rfl ?_
  obtain ⟨cl1, Ar1, qk1, Sz1, Mn1, Hv1, Gf1⟩ := id V_a
  refine OwnW.alen (pc' := 7) (x := (3 : Int32)) d2_6 Ar1 (len_of Sz1 Mn1) rfl ?_
  refine OwnW.icmpN (pc' := 10) d2_7 (tlt (by decide)).2.1 rfl ?_
  refine OwnW.aloadN (pc' := 11) d2_10 rfl (rfl) rfl ?_
  refine OwnW.iloadN (pc' := 12) d2_11 rfl rfl ?_
  obtain ⟨cl2, Ar2, qk2, Sz2, Mn2, Hv2, Gf2⟩ := id V_a
  refine OwnW.laload (pc' := 13) (v := (.long b)) d2_12 Ar2 (inb_of Sz2 ⟨by decide, by decide⟩) (Hv2.at (inb_of Sz2 ⟨by decide, by decide⟩) rfl) rfl ?_
  refine OwnW.aloadN (pc' := 14) d2_13 rfl (rfl) rfl ?_
  refine OwnW.iloadN (pc' := 15) d2_14 rfl rfl ?_
  obtain ⟨cl3, Ar3, qk3, Sz3, Mn3, Hv3, Gf3⟩ := id V_a
  refine OwnW.laload (pc' := 16) (v := (.long a)) d2_15 Ar3 (inb_of Sz3 ⟨by decide, by decide⟩) (Hv3.at (inb_of Sz3 ⟨by decide, by decide⟩) rfl) rfl ?_
  refine OwnW.lcmp (pc' := 17) d2_16 rfl ?_
  by_cases hc17 : (lcmpW b a) < (0 : Int32)
  ·
    refine OwnW.ifcN (pc' := 20) d2_17 ((if0 _ _).trans (tlt hc17).2.1) rfl ?_
    refine OwnW.iloadN (pc' := 21) d2_20 rfl rfl ?_
    refine OwnW.istoreN (pc' := 22) (L' := #[.val (.ref q0), .val (.int (-1 : Int32)), .val (.int (1 : Int32)), .val (.int (1 : Int32))]) d2_21 rfl rfl ?_
    refine OwnW.iinc (pc' := 25) (L' := #[.val (.ref q0), .val (.int (-1 : Int32)), .val (.int (1 : Int32)), .val (.int (2 : Int32))]) (d := (1 : Int32)) d2_22 rfl rfl rfl rfl ?_
    refine OwnW.goto (pc' := 4) d2_25 (by decide) (by decide) ?_
    refine OwnW.iloadN (pc' := 5) d2_4 rfl rfl ?_
    refine OwnW.aloadN (pc' := 6) d2_5 rfl (rfl) rfl ?_
    obtain ⟨cl4, Ar4, qk4, Sz4, Mn4, Hv4, Gf4⟩ := id V_a
    refine OwnW.alen (pc' := 7) (x := (3 : Int32)) d2_6 Ar4 (len_of Sz4 Mn4) rfl ?_
    refine OwnW.icmpN (pc' := 10) d2_7 (tlt (by decide)).2.1 rfl ?_
    refine OwnW.aloadN (pc' := 11) d2_10 rfl (rfl) rfl ?_
    refine OwnW.iloadN (pc' := 12) d2_11 rfl rfl ?_
    obtain ⟨cl5, Ar5, qk5, Sz5, Mn5, Hv5, Gf5⟩ := id V_a
    refine OwnW.laload (pc' := 13) (v := (.long c)) d2_12 Ar5 (inb_of Sz5 ⟨by decide, by decide⟩) (Hv5.at (inb_of Sz5 ⟨by decide, by decide⟩) rfl) rfl ?_
    refine OwnW.aloadN (pc' := 14) d2_13 rfl (rfl) rfl ?_
    refine OwnW.iloadN (pc' := 15) d2_14 rfl rfl ?_
    obtain ⟨cl6, Ar6, qk6, Sz6, Mn6, Hv6, Gf6⟩ := id V_a
    refine OwnW.laload (pc' := 16) (v := (.long b)) d2_15 Ar6 (inb_of Sz6 ⟨by decide, by decide⟩) (Hv6.at (inb_of Sz6 ⟨by decide, by decide⟩) rfl) rfl ?_
    refine OwnW.lcmp (pc' := 17) d2_16 rfl ?_
    by_cases hc17_1 : (lcmpW c b) < (0 : Int32)
    ·
      refine OwnW.ifcN (pc' := 20) d2_17 ((if0 _ _).trans (tlt hc17_1).2.1) rfl ?_
      refine OwnW.iloadN (pc' := 21) d2_20 rfl rfl ?_
      refine OwnW.istoreN (pc' := 22) (L' := #[.val (.ref q0), .val (.int (-1 : Int32)), .val (.int (2 : Int32)), .val (.int (2 : Int32))]) d2_21 rfl rfl ?_
      refine OwnW.iinc (pc' := 25) (L' := #[.val (.ref q0), .val (.int (-1 : Int32)), .val (.int (2 : Int32)), .val (.int (3 : Int32))]) (d := (1 : Int32)) d2_22 rfl rfl rfl rfl ?_
      refine OwnW.goto (pc' := 4) d2_25 (by decide) (by decide) ?_
      refine OwnW.iloadN (pc' := 5) d2_4 rfl rfl ?_
      refine OwnW.aloadN (pc' := 6) d2_5 rfl (rfl) rfl ?_
      obtain ⟨cl7, Ar7, qk7, Sz7, Mn7, Hv7, Gf7⟩ := id V_a
      refine OwnW.alen (pc' := 7) (x := (3 : Int32)) d2_6 Ar7 (len_of Sz7 Mn7) rfl ?_
      refine OwnW.icmpY (pc' := 28) d2_7 (flt (by decide)).2.1 (by decide) (by decide) ?_
      refine OwnW.iloadN (pc' := 29) d2_28 rfl rfl ?_
      refine OwnW.ifcY (pc' := 46) d2_29 ((if0 _ _).trans (tlt (by decide)).1) (by decide) (by decide) ?_
      refine OwnW.iloadN (pc' := 47) d2_46 rfl rfl ?_
      exact OwnW.retI d2_47 rfl (by decide) (by decide) (⟨by first | (simp only [f2_3_0, if_pos hc17, if_pos hc17_1]; done) | (simp only [f2_3_0, if_pos hc17, if_pos hc17_1]; rfl), rfl⟩)
    ·
      refine OwnW.ifcY (pc' := 22) d2_17 ((if0 _ _).trans (flt hc17_1).2.1) (by decide) (by decide) ?_
      refine OwnW.iinc (pc' := 25) (L' := #[.val (.ref q0), .val (.int (-1 : Int32)), .val (.int (1 : Int32)), .val (.int (3 : Int32))]) (d := (1 : Int32)) d2_22 rfl rfl rfl rfl ?_
      refine OwnW.goto (pc' := 4) d2_25 (by decide) (by decide) ?_
      refine OwnW.iloadN (pc' := 5) d2_4 rfl rfl ?_
      refine OwnW.aloadN (pc' := 6) d2_5 rfl (rfl) rfl ?_
      obtain ⟨cl8, Ar8, qk8, Sz8, Mn8, Hv8, Gf8⟩ := id V_a
      refine OwnW.alen (pc' := 7) (x := (3 : Int32)) d2_6 Ar8 (len_of Sz8 Mn8) rfl ?_
      refine OwnW.icmpY (pc' := 28) d2_7 (flt (by decide)).2.1 (by decide) (by decide) ?_
      refine OwnW.iloadN (pc' := 29) d2_28 rfl rfl ?_
      refine OwnW.ifcY (pc' := 46) d2_29 ((if0 _ _).trans (tlt (by decide)).1) (by decide) (by decide) ?_
      refine OwnW.iloadN (pc' := 47) d2_46 rfl rfl ?_
      exact OwnW.retI d2_47 rfl (by decide) (by decide) (⟨by first | (simp only [f2_3_0, if_pos hc17, if_neg hc17_1]; done) | (simp only [f2_3_0, if_pos hc17, if_neg hc17_1]; rfl), rfl⟩)
  ·
    refine OwnW.ifcY (pc' := 22) d2_17 ((if0 _ _).trans (flt hc17).2.1) (by decide) (by decide) ?_
    refine OwnW.iinc (pc' := 25) (L' := #[.val (.ref q0), .val (.int (-1 : Int32)), .val (.int (0 : Int32)), .val (.int (2 : Int32))]) (d := (1 : Int32)) d2_22 rfl rfl rfl rfl ?_
    refine OwnW.goto (pc' := 4) d2_25 (by decide) (by decide) ?_
    refine OwnW.iloadN (pc' := 5) d2_4 rfl rfl ?_
    refine OwnW.aloadN (pc' := 6) d2_5 rfl (rfl) rfl ?_
    obtain ⟨cl9, Ar9, qk9, Sz9, Mn9, Hv9, Gf9⟩ := id V_a
    refine OwnW.alen (pc' := 7) (x := (3 : Int32)) d2_6 Ar9 (len_of Sz9 Mn9) rfl ?_
    refine OwnW.icmpN (pc' := 10) d2_7 (tlt (by decide)).2.1 rfl ?_
    refine OwnW.aloadN (pc' := 11) d2_10 rfl (rfl) rfl ?_
    refine OwnW.iloadN (pc' := 12) d2_11 rfl rfl ?_
    obtain ⟨cl10, Ar10, qk10, Sz10, Mn10, Hv10, Gf10⟩ := id V_a
    refine OwnW.laload (pc' := 13) (v := (.long c)) d2_12 Ar10 (inb_of Sz10 ⟨by decide, by decide⟩) (Hv10.at (inb_of Sz10 ⟨by decide, by decide⟩) rfl) rfl ?_
    refine OwnW.aloadN (pc' := 14) d2_13 rfl (rfl) rfl ?_
    refine OwnW.iloadN (pc' := 15) d2_14 rfl rfl ?_
    obtain ⟨cl11, Ar11, qk11, Sz11, Mn11, Hv11, Gf11⟩ := id V_a
    refine OwnW.laload (pc' := 16) (v := (.long a)) d2_15 Ar11 (inb_of Sz11 ⟨by decide, by decide⟩) (Hv11.at (inb_of Sz11 ⟨by decide, by decide⟩) rfl) rfl ?_
    refine OwnW.lcmp (pc' := 17) d2_16 rfl ?_
    by_cases hc17_1 : (lcmpW c a) < (0 : Int32)
    ·
      refine OwnW.ifcN (pc' := 20) d2_17 ((if0 _ _).trans (tlt hc17_1).2.1) rfl ?_
      refine OwnW.iloadN (pc' := 21) d2_20 rfl rfl ?_
      refine OwnW.istoreN (pc' := 22) (L' := #[.val (.ref q0), .val (.int (-1 : Int32)), .val (.int (2 : Int32)), .val (.int (2 : Int32))]) d2_21 rfl rfl ?_
      refine OwnW.iinc (pc' := 25) (L' := #[.val (.ref q0), .val (.int (-1 : Int32)), .val (.int (2 : Int32)), .val (.int (3 : Int32))]) (d := (1 : Int32)) d2_22 rfl rfl rfl rfl ?_
      refine OwnW.goto (pc' := 4) d2_25 (by decide) (by decide) ?_
      refine OwnW.iloadN (pc' := 5) d2_4 rfl rfl ?_
      refine OwnW.aloadN (pc' := 6) d2_5 rfl (rfl) rfl ?_
      obtain ⟨cl12, Ar12, qk12, Sz12, Mn12, Hv12, Gf12⟩ := id V_a
      refine OwnW.alen (pc' := 7) (x := (3 : Int32)) d2_6 Ar12 (len_of Sz12 Mn12) rfl ?_
      refine OwnW.icmpY (pc' := 28) d2_7 (flt (by decide)).2.1 (by decide) (by decide) ?_
      refine OwnW.iloadN (pc' := 29) d2_28 rfl rfl ?_
      refine OwnW.ifcY (pc' := 46) d2_29 ((if0 _ _).trans (tlt (by decide)).1) (by decide) (by decide) ?_
      refine OwnW.iloadN (pc' := 47) d2_46 rfl rfl ?_
      exact OwnW.retI d2_47 rfl (by decide) (by decide) (⟨by first | (simp only [f2_3_0, if_neg hc17, if_pos hc17_1]; done) | (simp only [f2_3_0, if_neg hc17, if_pos hc17_1]; rfl), rfl⟩)
    ·
      refine OwnW.ifcY (pc' := 22) d2_17 ((if0 _ _).trans (flt hc17_1).2.1) (by decide) (by decide) ?_
      refine OwnW.iinc (pc' := 25) (L' := #[.val (.ref q0), .val (.int (-1 : Int32)), .val (.int (0 : Int32)), .val (.int (3 : Int32))]) (d := (1 : Int32)) d2_22 rfl rfl rfl rfl ?_
      refine OwnW.goto (pc' := 4) d2_25 (by decide) (by decide) ?_
      refine OwnW.iloadN (pc' := 5) d2_4 rfl rfl ?_
      refine OwnW.aloadN (pc' := 6) d2_5 rfl (rfl) rfl ?_
      obtain ⟨cl13, Ar13, qk13, Sz13, Mn13, Hv13, Gf13⟩ := id V_a
      refine OwnW.alen (pc' := 7) (x := (3 : Int32)) d2_6 Ar13 (len_of Sz13 Mn13) rfl ?_
      refine OwnW.icmpY (pc' := 28) d2_7 (flt (by decide)).2.1 (by decide) (by decide) ?_
      refine OwnW.iloadN (pc' := 29) d2_28 rfl rfl ?_
      refine OwnW.ifcY (pc' := 46) d2_29 ((if0 _ _).trans (tlt (by decide)).1) (by decide) (by decide) ?_
      refine OwnW.iloadN (pc' := 47) d2_46 rfl rfl ?_
      exact OwnW.retI d2_47 rfl (by decide) (by decide) (⟨by first | (simp only [f2_3_0, if_neg hc17, if_neg hc17_1]; done) | (simp only [f2_3_0, if_neg hc17, if_neg hc17_1]; rfl), rfl⟩)
def f2_3_1 (q0 : Addr) (kk : ClassId) (a : Int64) (b : Int64) (c : Int64) : Int32 := (if (lcmpW b a) < (0 : Int32) then (if (lcmpW c b) < (0 : Int32) then (if (lcmpW a c) = (0 : Int32) then (0 : Int32) else (2 : Int32)) else (if (lcmpW a b) = (0 : Int32) then (0 : Int32) else (1 : Int32))) else (if (lcmpW c a) < (0 : Int32) then (if (lcmpW a c) = (0 : Int32) then (0 : Int32) else (2 : Int32)) else (0 : Int32)))
abbrev GoB2_3_1 (l : Launch) (Z : State) (n0 : Nat) (Q : Option Value → Heap → Prop) := Go l Z ({ frames := 0, cells := 0, slots := 0, locals := 0 } : Room) (⟨"com/example/parley/parley/treesearch/ByValue", "firstLeast", "([JI)I"⟩ : MethodName) prog_59_method_3_code 4 (some .int) n0 Q
theorem ef2_3_1 (m : MethodId) (q0 : Addr) : entryFrame m #[(.ref q0), (.int (0 : Int32))] 4 = mkF m 0 #[.val (.ref q0), .val (.int (0 : Int32)), .unset, .unset] [] := by first | (simp [entryFrame, mkF, argsToLocals, Value.category]; done) | rfl
set_option maxRecDepth 65536 in
set_option maxHeartbeats 40000000 in
theorem rm2_3_1 (l : Launch) (Z : State) (a0 : Array Value) (hw : ∀ d ∈ tables_1, d.before a0 Z = true) (q0 : Addr) (kk : ClassId) (a : Int64) (b : Int64) (c : Int64) (h0 : Heap) (n0 : Nat) (V_a : Arv Z h0 q0 kk .long (3 : Int32) [(.long a), (.long b), (.long c)] (.long (0 : Int64))) :
    Con l Z ({ frames := 0, cells := 0, slots := 0, locals := 0 } : Room) (⟨"com/example/parley/parley/treesearch/ByValue", "firstLeast", "([JI)I"⟩ : MethodName) prog_59_method_3_code 4 (some .int) n0 #[(.ref q0), (.int (0 : Int32))] h0 (OwnW.Ret (some (.int (f2_3_1 q0 kk a b c))) h0) := by
  refine OwnW.Con.of (by first | decide +kernel | exact plainFor_of_name (by simp [plainName, overriddenIn])) (fun m => ef2_3_1 m q0) ?_
  show GoB2_3_1 l Z n0 (OwnW.Ret (some (.int (f2_3_1 q0 kk a b c))) h0) h0 0 0 0 #[.val (.ref q0), .val (.int (0 : Int32)), .unset, .unset] []
  refine OwnW.iconst (pc' := 1) (v := (0 : Int32)) d2_0 rfl rfl ?_
  refine OwnW.istoreN (pc' := 2) (L' := #[.val (.ref q0), .val (.int (0 : Int32)), .val (.int (0 : Int32)), .unset]) d2_1 rfl rfl ?_
  refine OwnW.iconst (pc' := 3) (v := (1 : Int32)) d2_2 rfl rfl ?_
  refine OwnW.istoreN (pc' := 4) (L' := #[.val (.ref q0), .val (.int (0 : Int32)), .val (.int (0 : Int32)), .val (.int (1 : Int32))]) d2_3 rfl rfl ?_
  refine OwnW.iloadN (pc' := 5) d2_4 rfl rfl ?_
  refine OwnW.aloadN (pc' := 6) d2_5 rfl (rfl) rfl ?_
  obtain ⟨cl1, Ar1, qk1, Sz1, Mn1, Hv1, Gf1⟩ := id V_a
  refine OwnW.alen (pc' := 7) (x := (3 : Int32)) d2_6 Ar1 (len_of Sz1 Mn1) rfl ?_
  refine OwnW.icmpN (pc' := 10) d2_7 (tlt (by decide)).2.1 rfl ?_
  refine OwnW.aloadN (pc' := 11) d2_10 rfl (rfl) rfl ?_
  refine OwnW.iloadN (pc' := 12) d2_11 rfl rfl ?_
  obtain ⟨cl2, Ar2, qk2, Sz2, Mn2, Hv2, Gf2⟩ := id V_a
  refine OwnW.laload (pc' := 13) (v := (.long b)) d2_12 Ar2 (inb_of Sz2 ⟨by decide, by decide⟩) (Hv2.at (inb_of Sz2 ⟨by decide, by decide⟩) rfl) rfl ?_
  refine OwnW.aloadN (pc' := 14) d2_13 rfl (rfl) rfl ?_
  refine OwnW.iloadN (pc' := 15) d2_14 rfl rfl ?_
  obtain ⟨cl3, Ar3, qk3, Sz3, Mn3, Hv3, Gf3⟩ := id V_a
  refine OwnW.laload (pc' := 16) (v := (.long a)) d2_15 Ar3 (inb_of Sz3 ⟨by decide, by decide⟩) (Hv3.at (inb_of Sz3 ⟨by decide, by decide⟩) rfl) rfl ?_
  refine OwnW.lcmp (pc' := 17) d2_16 rfl ?_
  by_cases hc17 : (lcmpW b a) < (0 : Int32)
  ·
    refine OwnW.ifcN (pc' := 20) d2_17 ((if0 _ _).trans (tlt hc17).2.1) rfl ?_
    refine OwnW.iloadN (pc' := 21) d2_20 rfl rfl ?_
    refine OwnW.istoreN (pc' := 22) (L' := #[.val (.ref q0), .val (.int (0 : Int32)), .val (.int (1 : Int32)), .val (.int (1 : Int32))]) d2_21 rfl rfl ?_
    refine OwnW.iinc (pc' := 25) (L' := #[.val (.ref q0), .val (.int (0 : Int32)), .val (.int (1 : Int32)), .val (.int (2 : Int32))]) (d := (1 : Int32)) d2_22 rfl rfl rfl rfl ?_
    refine OwnW.goto (pc' := 4) d2_25 (by decide) (by decide) ?_
    refine OwnW.iloadN (pc' := 5) d2_4 rfl rfl ?_
    refine OwnW.aloadN (pc' := 6) d2_5 rfl (rfl) rfl ?_
    obtain ⟨cl4, Ar4, qk4, Sz4, Mn4, Hv4, Gf4⟩ := id V_a
    refine OwnW.alen (pc' := 7) (x := (3 : Int32)) d2_6 Ar4 (len_of Sz4 Mn4) rfl ?_
    refine OwnW.icmpN (pc' := 10) d2_7 (tlt (by decide)).2.1 rfl ?_
    refine OwnW.aloadN (pc' := 11) d2_10 rfl (rfl) rfl ?_
    refine OwnW.iloadN (pc' := 12) d2_11 rfl rfl ?_
    obtain ⟨cl5, Ar5, qk5, Sz5, Mn5, Hv5, Gf5⟩ := id V_a
    refine OwnW.laload (pc' := 13) (v := (.long c)) d2_12 Ar5 (inb_of Sz5 ⟨by decide, by decide⟩) (Hv5.at (inb_of Sz5 ⟨by decide, by decide⟩) rfl) rfl ?_
    refine OwnW.aloadN (pc' := 14) d2_13 rfl (rfl) rfl ?_
    refine OwnW.iloadN (pc' := 15) d2_14 rfl rfl ?_
    obtain ⟨cl6, Ar6, qk6, Sz6, Mn6, Hv6, Gf6⟩ := id V_a
    refine OwnW.laload (pc' := 16) (v := (.long b)) d2_15 Ar6 (inb_of Sz6 ⟨by decide, by decide⟩) (Hv6.at (inb_of Sz6 ⟨by decide, by decide⟩) rfl) rfl ?_
    refine OwnW.lcmp (pc' := 17) d2_16 rfl ?_
    by_cases hc17_1 : (lcmpW c b) < (0 : Int32)
    ·
      refine OwnW.ifcN (pc' := 20) d2_17 ((if0 _ _).trans (tlt hc17_1).2.1) rfl ?_
      refine OwnW.iloadN (pc' := 21) d2_20 rfl rfl ?_
      refine OwnW.istoreN (pc' := 22) (L' := #[.val (.ref q0), .val (.int (0 : Int32)), .val (.int (2 : Int32)), .val (.int (2 : Int32))]) d2_21 rfl rfl ?_
      refine OwnW.iinc (pc' := 25) (L' := #[.val (.ref q0), .val (.int (0 : Int32)), .val (.int (2 : Int32)), .val (.int (3 : Int32))]) (d := (1 : Int32)) d2_22 rfl rfl rfl rfl ?_
      refine OwnW.goto (pc' := 4) d2_25 (by decide) (by decide) ?_
      refine OwnW.iloadN (pc' := 5) d2_4 rfl rfl ?_
      refine OwnW.aloadN (pc' := 6) d2_5 rfl (rfl) rfl ?_
      obtain ⟨cl7, Ar7, qk7, Sz7, Mn7, Hv7, Gf7⟩ := id V_a
      refine OwnW.alen (pc' := 7) (x := (3 : Int32)) d2_6 Ar7 (len_of Sz7 Mn7) rfl ?_
      refine OwnW.icmpY (pc' := 28) d2_7 (flt (by decide)).2.1 (by decide) (by decide) ?_
      refine OwnW.iloadN (pc' := 29) d2_28 rfl rfl ?_
      refine OwnW.ifcN (pc' := 32) d2_29 ((if0 _ _).trans (flt (by decide)).1) rfl ?_
      refine OwnW.aloadN (pc' := 33) d2_32 rfl (rfl) rfl ?_
      refine OwnW.iloadN (pc' := 34) d2_33 rfl rfl ?_
      obtain ⟨cl8, Ar8, qk8, Sz8, Mn8, Hv8, Gf8⟩ := id V_a
      refine OwnW.laload (pc' := 35) (v := (.long a)) d2_34 Ar8 (inb_of Sz8 ⟨by decide, by decide⟩) (Hv8.at (inb_of Sz8 ⟨by decide, by decide⟩) rfl) rfl ?_
      refine OwnW.aloadN (pc' := 36) d2_35 rfl (rfl) rfl ?_
      refine OwnW.iloadN (pc' := 37) d2_36 rfl rfl ?_
      obtain ⟨cl9, Ar9, qk9, Sz9, Mn9, Hv9, Gf9⟩ := id V_a
      refine OwnW.laload (pc' := 38) (v := (.long c)) d2_37 Ar9 (inb_of Sz9 ⟨by decide, by decide⟩) (Hv9.at (inb_of Sz9 ⟨by decide, by decide⟩) rfl) rfl ?_
      refine OwnW.lcmp (pc' := 39) d2_38 rfl ?_
      by_cases hc39 : (lcmpW a c) = (0 : Int32)
      ·
        refine OwnW.ifcN (pc' := 42) d2_39 ((if0 _ _).trans (teq hc39).2) rfl ?_
        refine OwnW.iloadN (pc' := 43) d2_42 rfl rfl ?_
        refine OwnW.goto (pc' := 47) d2_43 (by decide) (by decide) ?_
        exact OwnW.retI d2_47 rfl (by decide) (by decide) (⟨by first | (simp only [f2_3_1, if_pos hc17, if_pos hc17_1, if_pos hc39]; done) | (simp only [f2_3_1, if_pos hc17, if_pos hc17_1, if_pos hc39]; rfl), rfl⟩)
      ·
        refine OwnW.ifcY (pc' := 46) d2_39 ((if0 _ _).trans (feq hc39).2) (by decide) (by decide) ?_
        refine OwnW.iloadN (pc' := 47) d2_46 rfl rfl ?_
        exact OwnW.retI d2_47 rfl (by decide) (by decide) (⟨by first | (simp only [f2_3_1, if_pos hc17, if_pos hc17_1, if_neg hc39]; done) | (simp only [f2_3_1, if_pos hc17, if_pos hc17_1, if_neg hc39]; rfl), rfl⟩)
    ·
      refine OwnW.ifcY (pc' := 22) d2_17 ((if0 _ _).trans (flt hc17_1).2.1) (by decide) (by decide) ?_
      refine OwnW.iinc (pc' := 25) (L' := #[.val (.ref q0), .val (.int (0 : Int32)), .val (.int (1 : Int32)), .val (.int (3 : Int32))]) (d := (1 : Int32)) d2_22 rfl rfl rfl rfl ?_
      refine OwnW.goto (pc' := 4) d2_25 (by decide) (by decide) ?_
      refine OwnW.iloadN (pc' := 5) d2_4 rfl rfl ?_
      refine OwnW.aloadN (pc' := 6) d2_5 rfl (rfl) rfl ?_
      obtain ⟨cl10, Ar10, qk10, Sz10, Mn10, Hv10, Gf10⟩ := id V_a
      refine OwnW.alen (pc' := 7) (x := (3 : Int32)) d2_6 Ar10 (len_of Sz10 Mn10) rfl ?_
      refine OwnW.icmpY (pc' := 28) d2_7 (flt (by decide)).2.1 (by decide) (by decide) ?_
      refine OwnW.iloadN (pc' := 29) d2_28 rfl rfl ?_
      refine OwnW.ifcN (pc' := 32) d2_29 ((if0 _ _).trans (flt (by decide)).1) rfl ?_
      refine OwnW.aloadN (pc' := 33) d2_32 rfl (rfl) rfl ?_
      refine OwnW.iloadN (pc' := 34) d2_33 rfl rfl ?_
      obtain ⟨cl11, Ar11, qk11, Sz11, Mn11, Hv11, Gf11⟩ := id V_a
      refine OwnW.laload (pc' := 35) (v := (.long a)) d2_34 Ar11 (inb_of Sz11 ⟨by decide, by decide⟩) (Hv11.at (inb_of Sz11 ⟨by decide, by decide⟩) rfl) rfl ?_
      refine OwnW.aloadN (pc' := 36) d2_35 rfl (rfl) rfl ?_
      refine OwnW.iloadN (pc' := 37) d2_36 rfl rfl ?_
      obtain ⟨cl12, Ar12, qk12, Sz12, Mn12, Hv12, Gf12⟩ := id V_a
      refine OwnW.laload (pc' := 38) (v := (.long b)) d2_37 Ar12 (inb_of Sz12 ⟨by decide, by decide⟩) (Hv12.at (inb_of Sz12 ⟨by decide, by decide⟩) rfl) rfl ?_
      refine OwnW.lcmp (pc' := 39) d2_38 rfl ?_
      by_cases hc39 : (lcmpW a b) = (0 : Int32)
      ·
        refine OwnW.ifcN (pc' := 42) d2_39 ((if0 _ _).trans (teq hc39).2) rfl ?_
        refine OwnW.iloadN (pc' := 43) d2_42 rfl rfl ?_
        refine OwnW.goto (pc' := 47) d2_43 (by decide) (by decide) ?_
        exact OwnW.retI d2_47 rfl (by decide) (by decide) (⟨by first | (simp only [f2_3_1, if_pos hc17, if_neg hc17_1, if_pos hc39]; done) | (simp only [f2_3_1, if_pos hc17, if_neg hc17_1, if_pos hc39]; rfl), rfl⟩)
      ·
        refine OwnW.ifcY (pc' := 46) d2_39 ((if0 _ _).trans (feq hc39).2) (by decide) (by decide) ?_
        refine OwnW.iloadN (pc' := 47) d2_46 rfl rfl ?_
        exact OwnW.retI d2_47 rfl (by decide) (by decide) (⟨by first | (simp only [f2_3_1, if_pos hc17, if_neg hc17_1, if_neg hc39]; done) | (simp only [f2_3_1, if_pos hc17, if_neg hc17_1, if_neg hc39]; rfl), rfl⟩)
  ·
    refine OwnW.ifcY (pc' := 22) d2_17 ((if0 _ _).trans (flt hc17).2.1) (by decide) (by decide) ?_
    refine OwnW.iinc (pc' := 25) (L' := #[.val (.ref q0), .val (.int (0 : Int32)), .val (.int (0 : Int32)), .val (.int (2 : Int32))]) (d := (1 : Int32)) d2_22 rfl rfl rfl rfl ?_
    refine OwnW.goto (pc' := 4) d2_25 (by decide) (by decide) ?_
    refine OwnW.iloadN (pc' := 5) d2_4 rfl rfl ?_
    refine OwnW.aloadN (pc' := 6) d2_5 rfl (rfl) rfl ?_
    obtain ⟨cl13, Ar13, qk13, Sz13, Mn13, Hv13, Gf13⟩ := id V_a
    refine OwnW.alen (pc' := 7) (x := (3 : Int32)) d2_6 Ar13 (len_of Sz13 Mn13) rfl ?_
    refine OwnW.icmpN (pc' := 10) d2_7 (tlt (by decide)).2.1 rfl ?_
    refine OwnW.aloadN (pc' := 11) d2_10 rfl (rfl) rfl ?_
    refine OwnW.iloadN (pc' := 12) d2_11 rfl rfl ?_
    obtain ⟨cl14, Ar14, qk14, Sz14, Mn14, Hv14, Gf14⟩ := id V_a
    refine OwnW.laload (pc' := 13) (v := (.long c)) d2_12 Ar14 (inb_of Sz14 ⟨by decide, by decide⟩) (Hv14.at (inb_of Sz14 ⟨by decide, by decide⟩) rfl) rfl ?_
    refine OwnW.aloadN (pc' := 14) d2_13 rfl (rfl) rfl ?_
    refine OwnW.iloadN (pc' := 15) d2_14 rfl rfl ?_
    obtain ⟨cl15, Ar15, qk15, Sz15, Mn15, Hv15, Gf15⟩ := id V_a
    refine OwnW.laload (pc' := 16) (v := (.long a)) d2_15 Ar15 (inb_of Sz15 ⟨by decide, by decide⟩) (Hv15.at (inb_of Sz15 ⟨by decide, by decide⟩) rfl) rfl ?_
    refine OwnW.lcmp (pc' := 17) d2_16 rfl ?_
    by_cases hc17_1 : (lcmpW c a) < (0 : Int32)
    ·
      refine OwnW.ifcN (pc' := 20) d2_17 ((if0 _ _).trans (tlt hc17_1).2.1) rfl ?_
      refine OwnW.iloadN (pc' := 21) d2_20 rfl rfl ?_
      refine OwnW.istoreN (pc' := 22) (L' := #[.val (.ref q0), .val (.int (0 : Int32)), .val (.int (2 : Int32)), .val (.int (2 : Int32))]) d2_21 rfl rfl ?_
      refine OwnW.iinc (pc' := 25) (L' := #[.val (.ref q0), .val (.int (0 : Int32)), .val (.int (2 : Int32)), .val (.int (3 : Int32))]) (d := (1 : Int32)) d2_22 rfl rfl rfl rfl ?_
      refine OwnW.goto (pc' := 4) d2_25 (by decide) (by decide) ?_
      refine OwnW.iloadN (pc' := 5) d2_4 rfl rfl ?_
      refine OwnW.aloadN (pc' := 6) d2_5 rfl (rfl) rfl ?_
      obtain ⟨cl16, Ar16, qk16, Sz16, Mn16, Hv16, Gf16⟩ := id V_a
      refine OwnW.alen (pc' := 7) (x := (3 : Int32)) d2_6 Ar16 (len_of Sz16 Mn16) rfl ?_
      refine OwnW.icmpY (pc' := 28) d2_7 (flt (by decide)).2.1 (by decide) (by decide) ?_
      refine OwnW.iloadN (pc' := 29) d2_28 rfl rfl ?_
      refine OwnW.ifcN (pc' := 32) d2_29 ((if0 _ _).trans (flt (by decide)).1) rfl ?_
      refine OwnW.aloadN (pc' := 33) d2_32 rfl (rfl) rfl ?_
      refine OwnW.iloadN (pc' := 34) d2_33 rfl rfl ?_
      obtain ⟨cl17, Ar17, qk17, Sz17, Mn17, Hv17, Gf17⟩ := id V_a
      refine OwnW.laload (pc' := 35) (v := (.long a)) d2_34 Ar17 (inb_of Sz17 ⟨by decide, by decide⟩) (Hv17.at (inb_of Sz17 ⟨by decide, by decide⟩) rfl) rfl ?_
      refine OwnW.aloadN (pc' := 36) d2_35 rfl (rfl) rfl ?_
      refine OwnW.iloadN (pc' := 37) d2_36 rfl rfl ?_
      obtain ⟨cl18, Ar18, qk18, Sz18, Mn18, Hv18, Gf18⟩ := id V_a
      refine OwnW.laload (pc' := 38) (v := (.long c)) d2_37 Ar18 (inb_of Sz18 ⟨by decide, by decide⟩) (Hv18.at (inb_of Sz18 ⟨by decide, by decide⟩) rfl) rfl ?_
      refine OwnW.lcmp (pc' := 39) d2_38 rfl ?_
      by_cases hc39 : (lcmpW a c) = (0 : Int32)
      ·
        refine OwnW.ifcN (pc' := 42) d2_39 ((if0 _ _).trans (teq hc39).2) rfl ?_
        refine OwnW.iloadN (pc' := 43) d2_42 rfl rfl ?_
        refine OwnW.goto (pc' := 47) d2_43 (by decide) (by decide) ?_
        exact OwnW.retI d2_47 rfl (by decide) (by decide) (⟨by first | (simp only [f2_3_1, if_neg hc17, if_pos hc17_1, if_pos hc39]; done) | (simp only [f2_3_1, if_neg hc17, if_pos hc17_1, if_pos hc39]; rfl), rfl⟩)
      ·
        refine OwnW.ifcY (pc' := 46) d2_39 ((if0 _ _).trans (feq hc39).2) (by decide) (by decide) ?_
        refine OwnW.iloadN (pc' := 47) d2_46 rfl rfl ?_
        exact OwnW.retI d2_47 rfl (by decide) (by decide) (⟨by first | (simp only [f2_3_1, if_neg hc17, if_pos hc17_1, if_neg hc39]; done) | (simp only [f2_3_1, if_neg hc17, if_pos hc17_1, if_neg hc39]; rfl), rfl⟩)
    ·
      refine OwnW.ifcY (pc' := 22) d2_17 ((if0 _ _).trans (flt hc17_1).2.1) (by decide) (by decide) ?_
      refine OwnW.iinc (pc' := 25) (L' := #[.val (.ref q0), .val (.int (0 : Int32)), .val (.int (0 : Int32)), .val (.int (3 : Int32))]) (d := (1 : Int32)) d2_22 rfl rfl rfl rfl ?_
      refine OwnW.goto (pc' := 4) d2_25 (by decide) (by decide) ?_
      refine OwnW.iloadN (pc' := 5) d2_4 rfl rfl ?_
      refine OwnW.aloadN (pc' := 6) d2_5 rfl (rfl) rfl ?_
      obtain ⟨cl19, Ar19, qk19, Sz19, Mn19, Hv19, Gf19⟩ := id V_a
      refine OwnW.alen (pc' := 7) (x := (3 : Int32)) d2_6 Ar19 (len_of Sz19 Mn19) rfl ?_
      refine OwnW.icmpY (pc' := 28) d2_7 (flt (by decide)).2.1 (by decide) (by decide) ?_
      refine OwnW.iloadN (pc' := 29) d2_28 rfl rfl ?_
      refine OwnW.ifcN (pc' := 32) d2_29 ((if0 _ _).trans (flt (by decide)).1) rfl ?_
      refine OwnW.aloadN (pc' := 33) d2_32 rfl (rfl) rfl ?_
      refine OwnW.iloadN (pc' := 34) d2_33 rfl rfl ?_
      obtain ⟨cl20, Ar20, qk20, Sz20, Mn20, Hv20, Gf20⟩ := id V_a
      refine OwnW.laload (pc' := 35) (v := (.long a)) d2_34 Ar20 (inb_of Sz20 ⟨by decide, by decide⟩) (Hv20.at (inb_of Sz20 ⟨by decide, by decide⟩) rfl) rfl ?_
      refine OwnW.aloadN (pc' := 36) d2_35 rfl (rfl) rfl ?_
      refine OwnW.iloadN (pc' := 37) d2_36 rfl rfl ?_
      obtain ⟨cl21, Ar21, qk21, Sz21, Mn21, Hv21, Gf21⟩ := id V_a
      refine OwnW.laload (pc' := 38) (v := (.long a)) d2_37 Ar21 (inb_of Sz21 ⟨by decide, by decide⟩) (Hv21.at (inb_of Sz21 ⟨by decide, by decide⟩) rfl) rfl ?_
      refine OwnW.lcmp (pc' := 39) d2_38 rfl ?_
      by_cases hc39 : (lcmpW a a) = (0 : Int32)
      ·
        refine OwnW.ifcN (pc' := 42) d2_39 ((if0 _ _).trans (teq hc39).2) rfl ?_
        refine OwnW.iloadN (pc' := 43) d2_42 rfl rfl ?_
        refine OwnW.goto (pc' := 47) d2_43 (by decide) (by decide) ?_
        exact OwnW.retI d2_47 rfl (by decide) (by decide) (⟨by first | (simp only [f2_3_1, if_neg hc17, if_neg hc17_1, if_pos hc39]; done) | (simp only [f2_3_1, if_neg hc17, if_neg hc17_1, if_pos hc39]; rfl), rfl⟩)
      ·
        refine OwnW.ifcY (pc' := 46) d2_39 ((if0 _ _).trans (feq hc39).2) (by decide) (by decide) ?_
        refine OwnW.iloadN (pc' := 47) d2_46 rfl rfl ?_
        exact OwnW.retI d2_47 rfl (by decide) (by decide) (⟨by first | (simp only [f2_3_1, if_neg hc17, if_neg hc17_1, if_neg hc39]; done) | (simp only [f2_3_1, if_neg hc17, if_neg hc17_1, if_neg hc39]; rfl), rfl⟩)
def f2_3_2 (q0 : Addr) (kk : ClassId) (a : Int64) (b : Int64) (c : Int64) : Int32 := (if (lcmpW b a) < (0 : Int32) then (if (lcmpW c b) < (0 : Int32) then (if (lcmpW b c) = (0 : Int32) then (1 : Int32) else (2 : Int32)) else (1 : Int32)) else (if (lcmpW c a) < (0 : Int32) then (if (lcmpW b c) = (0 : Int32) then (1 : Int32) else (2 : Int32)) else (if (lcmpW b a) = (0 : Int32) then (1 : Int32) else (0 : Int32))))
abbrev GoB2_3_2 (l : Launch) (Z : State) (n0 : Nat) (Q : Option Value → Heap → Prop) := Go l Z ({ frames := 0, cells := 0, slots := 0, locals := 0 } : Room) (⟨"com/example/parley/parley/treesearch/ByValue", "firstLeast", "([JI)I"⟩ : MethodName) prog_59_method_3_code 4 (some .int) n0 Q
theorem ef2_3_2 (m : MethodId) (q0 : Addr) : entryFrame m #[(.ref q0), (.int (1 : Int32))] 4 = mkF m 0 #[.val (.ref q0), .val (.int (1 : Int32)), .unset, .unset] [] := by first | (simp [entryFrame, mkF, argsToLocals, Value.category]; done) | rfl
set_option maxRecDepth 65536 in
set_option maxHeartbeats 40000000 in
theorem rm2_3_2 (l : Launch) (Z : State) (a0 : Array Value) (hw : ∀ d ∈ tables_1, d.before a0 Z = true) (q0 : Addr) (kk : ClassId) (a : Int64) (b : Int64) (c : Int64) (h0 : Heap) (n0 : Nat) (V_a : Arv Z h0 q0 kk .long (3 : Int32) [(.long a), (.long b), (.long c)] (.long (0 : Int64))) :
    Con l Z ({ frames := 0, cells := 0, slots := 0, locals := 0 } : Room) (⟨"com/example/parley/parley/treesearch/ByValue", "firstLeast", "([JI)I"⟩ : MethodName) prog_59_method_3_code 4 (some .int) n0 #[(.ref q0), (.int (1 : Int32))] h0 (OwnW.Ret (some (.int (f2_3_2 q0 kk a b c))) h0) := by
  refine OwnW.Con.of (by first | decide +kernel | exact plainFor_of_name (by simp [plainName, overriddenIn])) (fun m => ef2_3_2 m q0) ?_
  show GoB2_3_2 l Z n0 (OwnW.Ret (some (.int (f2_3_2 q0 kk a b c))) h0) h0 0 0 0 #[.val (.ref q0), .val (.int (1 : Int32)), .unset, .unset] []
  refine OwnW.iconst (pc' := 1) (v := (0 : Int32)) d2_0 rfl rfl ?_
  refine OwnW.istoreN (pc' := 2) (L' := #[.val (.ref q0), .val (.int (1 : Int32)), .val (.int (0 : Int32)), .unset]) d2_1 rfl rfl ?_
  refine OwnW.iconst (pc' := 3) (v := (1 : Int32)) d2_2 rfl rfl ?_
  refine OwnW.istoreN (pc' := 4) (L' := #[.val (.ref q0), .val (.int (1 : Int32)), .val (.int (0 : Int32)), .val (.int (1 : Int32))]) d2_3 rfl rfl ?_
  refine OwnW.iloadN (pc' := 5) d2_4 rfl rfl ?_
  refine OwnW.aloadN (pc' := 6) d2_5 rfl (rfl) rfl ?_
  obtain ⟨cl1, Ar1, qk1, Sz1, Mn1, Hv1, Gf1⟩ := id V_a
  refine OwnW.alen (pc' := 7) (x := (3 : Int32)) d2_6 Ar1 (len_of Sz1 Mn1) rfl ?_
  refine OwnW.icmpN (pc' := 10) d2_7 (tlt (by decide)).2.1 rfl ?_
  refine OwnW.aloadN (pc' := 11) d2_10 rfl (rfl) rfl ?_
  refine OwnW.iloadN (pc' := 12) d2_11 rfl rfl ?_
  obtain ⟨cl2, Ar2, qk2, Sz2, Mn2, Hv2, Gf2⟩ := id V_a
  refine OwnW.laload (pc' := 13) (v := (.long b)) d2_12 Ar2 (inb_of Sz2 ⟨by decide, by decide⟩) (Hv2.at (inb_of Sz2 ⟨by decide, by decide⟩) rfl) rfl ?_
  refine OwnW.aloadN (pc' := 14) d2_13 rfl (rfl) rfl ?_
  refine OwnW.iloadN (pc' := 15) d2_14 rfl rfl ?_
  obtain ⟨cl3, Ar3, qk3, Sz3, Mn3, Hv3, Gf3⟩ := id V_a
  refine OwnW.laload (pc' := 16) (v := (.long a)) d2_15 Ar3 (inb_of Sz3 ⟨by decide, by decide⟩) (Hv3.at (inb_of Sz3 ⟨by decide, by decide⟩) rfl) rfl ?_
  refine OwnW.lcmp (pc' := 17) d2_16 rfl ?_
  by_cases hc17 : (lcmpW b a) < (0 : Int32)
  ·
    refine OwnW.ifcN (pc' := 20) d2_17 ((if0 _ _).trans (tlt hc17).2.1) rfl ?_
    refine OwnW.iloadN (pc' := 21) d2_20 rfl rfl ?_
    refine OwnW.istoreN (pc' := 22) (L' := #[.val (.ref q0), .val (.int (1 : Int32)), .val (.int (1 : Int32)), .val (.int (1 : Int32))]) d2_21 rfl rfl ?_
    refine OwnW.iinc (pc' := 25) (L' := #[.val (.ref q0), .val (.int (1 : Int32)), .val (.int (1 : Int32)), .val (.int (2 : Int32))]) (d := (1 : Int32)) d2_22 rfl rfl rfl rfl ?_
    refine OwnW.goto (pc' := 4) d2_25 (by decide) (by decide) ?_
    refine OwnW.iloadN (pc' := 5) d2_4 rfl rfl ?_
    refine OwnW.aloadN (pc' := 6) d2_5 rfl (rfl) rfl ?_
    obtain ⟨cl4, Ar4, qk4, Sz4, Mn4, Hv4, Gf4⟩ := id V_a
    refine OwnW.alen (pc' := 7) (x := (3 : Int32)) d2_6 Ar4 (len_of Sz4 Mn4) rfl ?_
    refine OwnW.icmpN (pc' := 10) d2_7 (tlt (by decide)).2.1 rfl ?_
    refine OwnW.aloadN (pc' := 11) d2_10 rfl (rfl) rfl ?_
    refine OwnW.iloadN (pc' := 12) d2_11 rfl rfl ?_
    obtain ⟨cl5, Ar5, qk5, Sz5, Mn5, Hv5, Gf5⟩ := id V_a
    refine OwnW.laload (pc' := 13) (v := (.long c)) d2_12 Ar5 (inb_of Sz5 ⟨by decide, by decide⟩) (Hv5.at (inb_of Sz5 ⟨by decide, by decide⟩) rfl) rfl ?_
    refine OwnW.aloadN (pc' := 14) d2_13 rfl (rfl) rfl ?_
    refine OwnW.iloadN (pc' := 15) d2_14 rfl rfl ?_
    obtain ⟨cl6, Ar6, qk6, Sz6, Mn6, Hv6, Gf6⟩ := id V_a
    refine OwnW.laload (pc' := 16) (v := (.long b)) d2_15 Ar6 (inb_of Sz6 ⟨by decide, by decide⟩) (Hv6.at (inb_of Sz6 ⟨by decide, by decide⟩) rfl) rfl ?_
    refine OwnW.lcmp (pc' := 17) d2_16 rfl ?_
    by_cases hc17_1 : (lcmpW c b) < (0 : Int32)
    ·
      refine OwnW.ifcN (pc' := 20) d2_17 ((if0 _ _).trans (tlt hc17_1).2.1) rfl ?_
      refine OwnW.iloadN (pc' := 21) d2_20 rfl rfl ?_
      refine OwnW.istoreN (pc' := 22) (L' := #[.val (.ref q0), .val (.int (1 : Int32)), .val (.int (2 : Int32)), .val (.int (2 : Int32))]) d2_21 rfl rfl ?_
      refine OwnW.iinc (pc' := 25) (L' := #[.val (.ref q0), .val (.int (1 : Int32)), .val (.int (2 : Int32)), .val (.int (3 : Int32))]) (d := (1 : Int32)) d2_22 rfl rfl rfl rfl ?_
      refine OwnW.goto (pc' := 4) d2_25 (by decide) (by decide) ?_
      refine OwnW.iloadN (pc' := 5) d2_4 rfl rfl ?_
      refine OwnW.aloadN (pc' := 6) d2_5 rfl (rfl) rfl ?_
      obtain ⟨cl7, Ar7, qk7, Sz7, Mn7, Hv7, Gf7⟩ := id V_a
      refine OwnW.alen (pc' := 7) (x := (3 : Int32)) d2_6 Ar7 (len_of Sz7 Mn7) rfl ?_
      refine OwnW.icmpY (pc' := 28) d2_7 (flt (by decide)).2.1 (by decide) (by decide) ?_
      refine OwnW.iloadN (pc' := 29) d2_28 rfl rfl ?_
      refine OwnW.ifcN (pc' := 32) d2_29 ((if0 _ _).trans (flt (by decide)).1) rfl ?_
      refine OwnW.aloadN (pc' := 33) d2_32 rfl (rfl) rfl ?_
      refine OwnW.iloadN (pc' := 34) d2_33 rfl rfl ?_
      obtain ⟨cl8, Ar8, qk8, Sz8, Mn8, Hv8, Gf8⟩ := id V_a
      refine OwnW.laload (pc' := 35) (v := (.long b)) d2_34 Ar8 (inb_of Sz8 ⟨by decide, by decide⟩) (Hv8.at (inb_of Sz8 ⟨by decide, by decide⟩) rfl) rfl ?_
      refine OwnW.aloadN (pc' := 36) d2_35 rfl (rfl) rfl ?_
      refine OwnW.iloadN (pc' := 37) d2_36 rfl rfl ?_
      obtain ⟨cl9, Ar9, qk9, Sz9, Mn9, Hv9, Gf9⟩ := id V_a
      refine OwnW.laload (pc' := 38) (v := (.long c)) d2_37 Ar9 (inb_of Sz9 ⟨by decide, by decide⟩) (Hv9.at (inb_of Sz9 ⟨by decide, by decide⟩) rfl) rfl ?_
      refine OwnW.lcmp (pc' := 39) d2_38 rfl ?_
      by_cases hc39 : (lcmpW b c) = (0 : Int32)
      ·
        refine OwnW.ifcN (pc' := 42) d2_39 ((if0 _ _).trans (teq hc39).2) rfl ?_
        refine OwnW.iloadN (pc' := 43) d2_42 rfl rfl ?_
        refine OwnW.goto (pc' := 47) d2_43 (by decide) (by decide) ?_
        exact OwnW.retI d2_47 rfl (by decide) (by decide) (⟨by first | (simp only [f2_3_2, if_pos hc17, if_pos hc17_1, if_pos hc39]; done) | (simp only [f2_3_2, if_pos hc17, if_pos hc17_1, if_pos hc39]; rfl), rfl⟩)
      ·
        refine OwnW.ifcY (pc' := 46) d2_39 ((if0 _ _).trans (feq hc39).2) (by decide) (by decide) ?_
        refine OwnW.iloadN (pc' := 47) d2_46 rfl rfl ?_
        exact OwnW.retI d2_47 rfl (by decide) (by decide) (⟨by first | (simp only [f2_3_2, if_pos hc17, if_pos hc17_1, if_neg hc39]; done) | (simp only [f2_3_2, if_pos hc17, if_pos hc17_1, if_neg hc39]; rfl), rfl⟩)
    ·
      refine OwnW.ifcY (pc' := 22) d2_17 ((if0 _ _).trans (flt hc17_1).2.1) (by decide) (by decide) ?_
      refine OwnW.iinc (pc' := 25) (L' := #[.val (.ref q0), .val (.int (1 : Int32)), .val (.int (1 : Int32)), .val (.int (3 : Int32))]) (d := (1 : Int32)) d2_22 rfl rfl rfl rfl ?_
      refine OwnW.goto (pc' := 4) d2_25 (by decide) (by decide) ?_
      refine OwnW.iloadN (pc' := 5) d2_4 rfl rfl ?_
      refine OwnW.aloadN (pc' := 6) d2_5 rfl (rfl) rfl ?_
      obtain ⟨cl10, Ar10, qk10, Sz10, Mn10, Hv10, Gf10⟩ := id V_a
      refine OwnW.alen (pc' := 7) (x := (3 : Int32)) d2_6 Ar10 (len_of Sz10 Mn10) rfl ?_
      refine OwnW.icmpY (pc' := 28) d2_7 (flt (by decide)).2.1 (by decide) (by decide) ?_
      refine OwnW.iloadN (pc' := 29) d2_28 rfl rfl ?_
      refine OwnW.ifcN (pc' := 32) d2_29 ((if0 _ _).trans (flt (by decide)).1) rfl ?_
      refine OwnW.aloadN (pc' := 33) d2_32 rfl (rfl) rfl ?_
      refine OwnW.iloadN (pc' := 34) d2_33 rfl rfl ?_
      obtain ⟨cl11, Ar11, qk11, Sz11, Mn11, Hv11, Gf11⟩ := id V_a
      refine OwnW.laload (pc' := 35) (v := (.long b)) d2_34 Ar11 (inb_of Sz11 ⟨by decide, by decide⟩) (Hv11.at (inb_of Sz11 ⟨by decide, by decide⟩) rfl) rfl ?_
      refine OwnW.aloadN (pc' := 36) d2_35 rfl (rfl) rfl ?_
      refine OwnW.iloadN (pc' := 37) d2_36 rfl rfl ?_
      obtain ⟨cl12, Ar12, qk12, Sz12, Mn12, Hv12, Gf12⟩ := id V_a
      refine OwnW.laload (pc' := 38) (v := (.long b)) d2_37 Ar12 (inb_of Sz12 ⟨by decide, by decide⟩) (Hv12.at (inb_of Sz12 ⟨by decide, by decide⟩) rfl) rfl ?_
      refine OwnW.lcmp (pc' := 39) d2_38 rfl ?_
      by_cases hc39 : (lcmpW b b) = (0 : Int32)
      ·
        refine OwnW.ifcN (pc' := 42) d2_39 ((if0 _ _).trans (teq hc39).2) rfl ?_
        refine OwnW.iloadN (pc' := 43) d2_42 rfl rfl ?_
        refine OwnW.goto (pc' := 47) d2_43 (by decide) (by decide) ?_
        exact OwnW.retI d2_47 rfl (by decide) (by decide) (⟨by first | (simp only [f2_3_2, if_pos hc17, if_neg hc17_1, if_pos hc39]; done) | (simp only [f2_3_2, if_pos hc17, if_neg hc17_1, if_pos hc39]; rfl), rfl⟩)
      ·
        refine OwnW.ifcY (pc' := 46) d2_39 ((if0 _ _).trans (feq hc39).2) (by decide) (by decide) ?_
        refine OwnW.iloadN (pc' := 47) d2_46 rfl rfl ?_
        exact OwnW.retI d2_47 rfl (by decide) (by decide) (⟨by first | (simp only [f2_3_2, if_pos hc17, if_neg hc17_1, if_neg hc39]; done) | (simp only [f2_3_2, if_pos hc17, if_neg hc17_1, if_neg hc39]; rfl), rfl⟩)
  ·
    refine OwnW.ifcY (pc' := 22) d2_17 ((if0 _ _).trans (flt hc17).2.1) (by decide) (by decide) ?_
    refine OwnW.iinc (pc' := 25) (L' := #[.val (.ref q0), .val (.int (1 : Int32)), .val (.int (0 : Int32)), .val (.int (2 : Int32))]) (d := (1 : Int32)) d2_22 rfl rfl rfl rfl ?_
    refine OwnW.goto (pc' := 4) d2_25 (by decide) (by decide) ?_
    refine OwnW.iloadN (pc' := 5) d2_4 rfl rfl ?_
    refine OwnW.aloadN (pc' := 6) d2_5 rfl (rfl) rfl ?_
    obtain ⟨cl13, Ar13, qk13, Sz13, Mn13, Hv13, Gf13⟩ := id V_a
    refine OwnW.alen (pc' := 7) (x := (3 : Int32)) d2_6 Ar13 (len_of Sz13 Mn13) rfl ?_
    refine OwnW.icmpN (pc' := 10) d2_7 (tlt (by decide)).2.1 rfl ?_
    refine OwnW.aloadN (pc' := 11) d2_10 rfl (rfl) rfl ?_
    refine OwnW.iloadN (pc' := 12) d2_11 rfl rfl ?_
    obtain ⟨cl14, Ar14, qk14, Sz14, Mn14, Hv14, Gf14⟩ := id V_a
    refine OwnW.laload (pc' := 13) (v := (.long c)) d2_12 Ar14 (inb_of Sz14 ⟨by decide, by decide⟩) (Hv14.at (inb_of Sz14 ⟨by decide, by decide⟩) rfl) rfl ?_
    refine OwnW.aloadN (pc' := 14) d2_13 rfl (rfl) rfl ?_
    refine OwnW.iloadN (pc' := 15) d2_14 rfl rfl ?_
    obtain ⟨cl15, Ar15, qk15, Sz15, Mn15, Hv15, Gf15⟩ := id V_a
    refine OwnW.laload (pc' := 16) (v := (.long a)) d2_15 Ar15 (inb_of Sz15 ⟨by decide, by decide⟩) (Hv15.at (inb_of Sz15 ⟨by decide, by decide⟩) rfl) rfl ?_
    refine OwnW.lcmp (pc' := 17) d2_16 rfl ?_
    by_cases hc17_1 : (lcmpW c a) < (0 : Int32)
    ·
      refine OwnW.ifcN (pc' := 20) d2_17 ((if0 _ _).trans (tlt hc17_1).2.1) rfl ?_
      refine OwnW.iloadN (pc' := 21) d2_20 rfl rfl ?_
      refine OwnW.istoreN (pc' := 22) (L' := #[.val (.ref q0), .val (.int (1 : Int32)), .val (.int (2 : Int32)), .val (.int (2 : Int32))]) d2_21 rfl rfl ?_
      refine OwnW.iinc (pc' := 25) (L' := #[.val (.ref q0), .val (.int (1 : Int32)), .val (.int (2 : Int32)), .val (.int (3 : Int32))]) (d := (1 : Int32)) d2_22 rfl rfl rfl rfl ?_
      refine OwnW.goto (pc' := 4) d2_25 (by decide) (by decide) ?_
      refine OwnW.iloadN (pc' := 5) d2_4 rfl rfl ?_
      refine OwnW.aloadN (pc' := 6) d2_5 rfl (rfl) rfl ?_
      obtain ⟨cl16, Ar16, qk16, Sz16, Mn16, Hv16, Gf16⟩ := id V_a
      refine OwnW.alen (pc' := 7) (x := (3 : Int32)) d2_6 Ar16 (len_of Sz16 Mn16) rfl ?_
      refine OwnW.icmpY (pc' := 28) d2_7 (flt (by decide)).2.1 (by decide) (by decide) ?_
      refine OwnW.iloadN (pc' := 29) d2_28 rfl rfl ?_
      refine OwnW.ifcN (pc' := 32) d2_29 ((if0 _ _).trans (flt (by decide)).1) rfl ?_
      refine OwnW.aloadN (pc' := 33) d2_32 rfl (rfl) rfl ?_
      refine OwnW.iloadN (pc' := 34) d2_33 rfl rfl ?_
      obtain ⟨cl17, Ar17, qk17, Sz17, Mn17, Hv17, Gf17⟩ := id V_a
      refine OwnW.laload (pc' := 35) (v := (.long b)) d2_34 Ar17 (inb_of Sz17 ⟨by decide, by decide⟩) (Hv17.at (inb_of Sz17 ⟨by decide, by decide⟩) rfl) rfl ?_
      refine OwnW.aloadN (pc' := 36) d2_35 rfl (rfl) rfl ?_
      refine OwnW.iloadN (pc' := 37) d2_36 rfl rfl ?_
      obtain ⟨cl18, Ar18, qk18, Sz18, Mn18, Hv18, Gf18⟩ := id V_a
      refine OwnW.laload (pc' := 38) (v := (.long c)) d2_37 Ar18 (inb_of Sz18 ⟨by decide, by decide⟩) (Hv18.at (inb_of Sz18 ⟨by decide, by decide⟩) rfl) rfl ?_
      refine OwnW.lcmp (pc' := 39) d2_38 rfl ?_
      by_cases hc39 : (lcmpW b c) = (0 : Int32)
      ·
        refine OwnW.ifcN (pc' := 42) d2_39 ((if0 _ _).trans (teq hc39).2) rfl ?_
        refine OwnW.iloadN (pc' := 43) d2_42 rfl rfl ?_
        refine OwnW.goto (pc' := 47) d2_43 (by decide) (by decide) ?_
        exact OwnW.retI d2_47 rfl (by decide) (by decide) (⟨by first | (simp only [f2_3_2, if_neg hc17, if_pos hc17_1, if_pos hc39]; done) | (simp only [f2_3_2, if_neg hc17, if_pos hc17_1, if_pos hc39]; rfl), rfl⟩)
      ·
        refine OwnW.ifcY (pc' := 46) d2_39 ((if0 _ _).trans (feq hc39).2) (by decide) (by decide) ?_
        refine OwnW.iloadN (pc' := 47) d2_46 rfl rfl ?_
        exact OwnW.retI d2_47 rfl (by decide) (by decide) (⟨by first | (simp only [f2_3_2, if_neg hc17, if_pos hc17_1, if_neg hc39]; done) | (simp only [f2_3_2, if_neg hc17, if_pos hc17_1, if_neg hc39]; rfl), rfl⟩)
    ·
      refine OwnW.ifcY (pc' := 22) d2_17 ((if0 _ _).trans (flt hc17_1).2.1) (by decide) (by decide) ?_
      refine OwnW.iinc (pc' := 25) (L' := #[.val (.ref q0), .val (.int (1 : Int32)), .val (.int (0 : Int32)), .val (.int (3 : Int32))]) (d := (1 : Int32)) d2_22 rfl rfl rfl rfl ?_
      refine OwnW.goto (pc' := 4) d2_25 (by decide) (by decide) ?_
      refine OwnW.iloadN (pc' := 5) d2_4 rfl rfl ?_
      refine OwnW.aloadN (pc' := 6) d2_5 rfl (rfl) rfl ?_
      obtain ⟨cl19, Ar19, qk19, Sz19, Mn19, Hv19, Gf19⟩ := id V_a
      refine OwnW.alen (pc' := 7) (x := (3 : Int32)) d2_6 Ar19 (len_of Sz19 Mn19) rfl ?_
      refine OwnW.icmpY (pc' := 28) d2_7 (flt (by decide)).2.1 (by decide) (by decide) ?_
      refine OwnW.iloadN (pc' := 29) d2_28 rfl rfl ?_
      refine OwnW.ifcN (pc' := 32) d2_29 ((if0 _ _).trans (flt (by decide)).1) rfl ?_
      refine OwnW.aloadN (pc' := 33) d2_32 rfl (rfl) rfl ?_
      refine OwnW.iloadN (pc' := 34) d2_33 rfl rfl ?_
      obtain ⟨cl20, Ar20, qk20, Sz20, Mn20, Hv20, Gf20⟩ := id V_a
      refine OwnW.laload (pc' := 35) (v := (.long b)) d2_34 Ar20 (inb_of Sz20 ⟨by decide, by decide⟩) (Hv20.at (inb_of Sz20 ⟨by decide, by decide⟩) rfl) rfl ?_
      refine OwnW.aloadN (pc' := 36) d2_35 rfl (rfl) rfl ?_
      refine OwnW.iloadN (pc' := 37) d2_36 rfl rfl ?_
      obtain ⟨cl21, Ar21, qk21, Sz21, Mn21, Hv21, Gf21⟩ := id V_a
      refine OwnW.laload (pc' := 38) (v := (.long a)) d2_37 Ar21 (inb_of Sz21 ⟨by decide, by decide⟩) (Hv21.at (inb_of Sz21 ⟨by decide, by decide⟩) rfl) rfl ?_
      refine OwnW.lcmp (pc' := 39) d2_38 rfl ?_
      by_cases hc39 : (lcmpW b a) = (0 : Int32)
      ·
        refine OwnW.ifcN (pc' := 42) d2_39 ((if0 _ _).trans (teq hc39).2) rfl ?_
        refine OwnW.iloadN (pc' := 43) d2_42 rfl rfl ?_
        refine OwnW.goto (pc' := 47) d2_43 (by decide) (by decide) ?_
        exact OwnW.retI d2_47 rfl (by decide) (by decide) (⟨by first | (simp only [f2_3_2, if_neg hc17, if_neg hc17_1, if_pos hc39]; done) | (simp only [f2_3_2, if_neg hc17, if_neg hc17_1, if_pos hc39]; rfl), rfl⟩)
      ·
        refine OwnW.ifcY (pc' := 46) d2_39 ((if0 _ _).trans (feq hc39).2) (by decide) (by decide) ?_
        refine OwnW.iloadN (pc' := 47) d2_46 rfl rfl ?_
        exact OwnW.retI d2_47 rfl (by decide) (by decide) (⟨by first | (simp only [f2_3_2, if_neg hc17, if_neg hc17_1, if_neg hc39]; done) | (simp only [f2_3_2, if_neg hc17, if_neg hc17_1, if_neg hc39]; rfl), rfl⟩)
def f2_3_3 (q0 : Addr) (kk : ClassId) (a : Int64) (b : Int64) (c : Int64) : Int32 := (if (lcmpW b a) < (0 : Int32) then (if (lcmpW c b) < (0 : Int32) then (2 : Int32) else (if (lcmpW c b) = (0 : Int32) then (2 : Int32) else (1 : Int32))) else (if (lcmpW c a) < (0 : Int32) then (2 : Int32) else (if (lcmpW c a) = (0 : Int32) then (2 : Int32) else (0 : Int32))))
abbrev GoB2_3_3 (l : Launch) (Z : State) (n0 : Nat) (Q : Option Value → Heap → Prop) := Go l Z ({ frames := 0, cells := 0, slots := 0, locals := 0 } : Room) (⟨"com/example/parley/parley/treesearch/ByValue", "firstLeast", "([JI)I"⟩ : MethodName) prog_59_method_3_code 4 (some .int) n0 Q
theorem ef2_3_3 (m : MethodId) (q0 : Addr) : entryFrame m #[(.ref q0), (.int (2 : Int32))] 4 = mkF m 0 #[.val (.ref q0), .val (.int (2 : Int32)), .unset, .unset] [] := by first | (simp [entryFrame, mkF, argsToLocals, Value.category]; done) | rfl
set_option maxRecDepth 65536 in
set_option maxHeartbeats 40000000 in
theorem rm2_3_3 (l : Launch) (Z : State) (a0 : Array Value) (hw : ∀ d ∈ tables_1, d.before a0 Z = true) (q0 : Addr) (kk : ClassId) (a : Int64) (b : Int64) (c : Int64) (h0 : Heap) (n0 : Nat) (V_a : Arv Z h0 q0 kk .long (3 : Int32) [(.long a), (.long b), (.long c)] (.long (0 : Int64))) :
    Con l Z ({ frames := 0, cells := 0, slots := 0, locals := 0 } : Room) (⟨"com/example/parley/parley/treesearch/ByValue", "firstLeast", "([JI)I"⟩ : MethodName) prog_59_method_3_code 4 (some .int) n0 #[(.ref q0), (.int (2 : Int32))] h0 (OwnW.Ret (some (.int (f2_3_3 q0 kk a b c))) h0) := by
  refine OwnW.Con.of (by first | decide +kernel | exact plainFor_of_name (by simp [plainName, overriddenIn])) (fun m => ef2_3_3 m q0) ?_
  show GoB2_3_3 l Z n0 (OwnW.Ret (some (.int (f2_3_3 q0 kk a b c))) h0) h0 0 0 0 #[.val (.ref q0), .val (.int (2 : Int32)), .unset, .unset] []
  refine OwnW.iconst (pc' := 1) (v := (0 : Int32)) d2_0 rfl rfl ?_
  refine OwnW.istoreN (pc' := 2) (L' := #[.val (.ref q0), .val (.int (2 : Int32)), .val (.int (0 : Int32)), .unset]) d2_1 rfl rfl ?_
  refine OwnW.iconst (pc' := 3) (v := (1 : Int32)) d2_2 rfl rfl ?_
  refine OwnW.istoreN (pc' := 4) (L' := #[.val (.ref q0), .val (.int (2 : Int32)), .val (.int (0 : Int32)), .val (.int (1 : Int32))]) d2_3 rfl rfl ?_
  refine OwnW.iloadN (pc' := 5) d2_4 rfl rfl ?_
  refine OwnW.aloadN (pc' := 6) d2_5 rfl (rfl) rfl ?_
  obtain ⟨cl1, Ar1, qk1, Sz1, Mn1, Hv1, Gf1⟩ := id V_a
  refine OwnW.alen (pc' := 7) (x := (3 : Int32)) d2_6 Ar1 (len_of Sz1 Mn1) rfl ?_
  refine OwnW.icmpN (pc' := 10) d2_7 (tlt (by decide)).2.1 rfl ?_
  refine OwnW.aloadN (pc' := 11) d2_10 rfl (rfl) rfl ?_
  refine OwnW.iloadN (pc' := 12) d2_11 rfl rfl ?_
  obtain ⟨cl2, Ar2, qk2, Sz2, Mn2, Hv2, Gf2⟩ := id V_a
  refine OwnW.laload (pc' := 13) (v := (.long b)) d2_12 Ar2 (inb_of Sz2 ⟨by decide, by decide⟩) (Hv2.at (inb_of Sz2 ⟨by decide, by decide⟩) rfl) rfl ?_
  refine OwnW.aloadN (pc' := 14) d2_13 rfl (rfl) rfl ?_
  refine OwnW.iloadN (pc' := 15) d2_14 rfl rfl ?_
  obtain ⟨cl3, Ar3, qk3, Sz3, Mn3, Hv3, Gf3⟩ := id V_a
  refine OwnW.laload (pc' := 16) (v := (.long a)) d2_15 Ar3 (inb_of Sz3 ⟨by decide, by decide⟩) (Hv3.at (inb_of Sz3 ⟨by decide, by decide⟩) rfl) rfl ?_
  refine OwnW.lcmp (pc' := 17) d2_16 rfl ?_
  by_cases hc17 : (lcmpW b a) < (0 : Int32)
  ·
    refine OwnW.ifcN (pc' := 20) d2_17 ((if0 _ _).trans (tlt hc17).2.1) rfl ?_
    refine OwnW.iloadN (pc' := 21) d2_20 rfl rfl ?_
    refine OwnW.istoreN (pc' := 22) (L' := #[.val (.ref q0), .val (.int (2 : Int32)), .val (.int (1 : Int32)), .val (.int (1 : Int32))]) d2_21 rfl rfl ?_
    refine OwnW.iinc (pc' := 25) (L' := #[.val (.ref q0), .val (.int (2 : Int32)), .val (.int (1 : Int32)), .val (.int (2 : Int32))]) (d := (1 : Int32)) d2_22 rfl rfl rfl rfl ?_
    refine OwnW.goto (pc' := 4) d2_25 (by decide) (by decide) ?_
    refine OwnW.iloadN (pc' := 5) d2_4 rfl rfl ?_
    refine OwnW.aloadN (pc' := 6) d2_5 rfl (rfl) rfl ?_
    obtain ⟨cl4, Ar4, qk4, Sz4, Mn4, Hv4, Gf4⟩ := id V_a
    refine OwnW.alen (pc' := 7) (x := (3 : Int32)) d2_6 Ar4 (len_of Sz4 Mn4) rfl ?_
    refine OwnW.icmpN (pc' := 10) d2_7 (tlt (by decide)).2.1 rfl ?_
    refine OwnW.aloadN (pc' := 11) d2_10 rfl (rfl) rfl ?_
    refine OwnW.iloadN (pc' := 12) d2_11 rfl rfl ?_
    obtain ⟨cl5, Ar5, qk5, Sz5, Mn5, Hv5, Gf5⟩ := id V_a
    refine OwnW.laload (pc' := 13) (v := (.long c)) d2_12 Ar5 (inb_of Sz5 ⟨by decide, by decide⟩) (Hv5.at (inb_of Sz5 ⟨by decide, by decide⟩) rfl) rfl ?_
    refine OwnW.aloadN (pc' := 14) d2_13 rfl (rfl) rfl ?_
    refine OwnW.iloadN (pc' := 15) d2_14 rfl rfl ?_
    obtain ⟨cl6, Ar6, qk6, Sz6, Mn6, Hv6, Gf6⟩ := id V_a
    refine OwnW.laload (pc' := 16) (v := (.long b)) d2_15 Ar6 (inb_of Sz6 ⟨by decide, by decide⟩) (Hv6.at (inb_of Sz6 ⟨by decide, by decide⟩) rfl) rfl ?_
    refine OwnW.lcmp (pc' := 17) d2_16 rfl ?_
    by_cases hc17_1 : (lcmpW c b) < (0 : Int32)
    ·
      refine OwnW.ifcN (pc' := 20) d2_17 ((if0 _ _).trans (tlt hc17_1).2.1) rfl ?_
      refine OwnW.iloadN (pc' := 21) d2_20 rfl rfl ?_
      refine OwnW.istoreN (pc' := 22) (L' := #[.val (.ref q0), .val (.int (2 : Int32)), .val (.int (2 : Int32)), .val (.int (2 : Int32))]) d2_21 rfl rfl ?_
      refine OwnW.iinc (pc' := 25) (L' := #[.val (.ref q0), .val (.int (2 : Int32)), .val (.int (2 : Int32)), .val (.int (3 : Int32))]) (d := (1 : Int32)) d2_22 rfl rfl rfl rfl ?_
      refine OwnW.goto (pc' := 4) d2_25 (by decide) (by decide) ?_
      refine OwnW.iloadN (pc' := 5) d2_4 rfl rfl ?_
      refine OwnW.aloadN (pc' := 6) d2_5 rfl (rfl) rfl ?_
      obtain ⟨cl7, Ar7, qk7, Sz7, Mn7, Hv7, Gf7⟩ := id V_a
      refine OwnW.alen (pc' := 7) (x := (3 : Int32)) d2_6 Ar7 (len_of Sz7 Mn7) rfl ?_
      refine OwnW.icmpY (pc' := 28) d2_7 (flt (by decide)).2.1 (by decide) (by decide) ?_
      refine OwnW.iloadN (pc' := 29) d2_28 rfl rfl ?_
      refine OwnW.ifcN (pc' := 32) d2_29 ((if0 _ _).trans (flt (by decide)).1) rfl ?_
      refine OwnW.aloadN (pc' := 33) d2_32 rfl (rfl) rfl ?_
      refine OwnW.iloadN (pc' := 34) d2_33 rfl rfl ?_
      obtain ⟨cl8, Ar8, qk8, Sz8, Mn8, Hv8, Gf8⟩ := id V_a
      refine OwnW.laload (pc' := 35) (v := (.long c)) d2_34 Ar8 (inb_of Sz8 ⟨by decide, by decide⟩) (Hv8.at (inb_of Sz8 ⟨by decide, by decide⟩) rfl) rfl ?_
      refine OwnW.aloadN (pc' := 36) d2_35 rfl (rfl) rfl ?_
      refine OwnW.iloadN (pc' := 37) d2_36 rfl rfl ?_
      obtain ⟨cl9, Ar9, qk9, Sz9, Mn9, Hv9, Gf9⟩ := id V_a
      refine OwnW.laload (pc' := 38) (v := (.long c)) d2_37 Ar9 (inb_of Sz9 ⟨by decide, by decide⟩) (Hv9.at (inb_of Sz9 ⟨by decide, by decide⟩) rfl) rfl ?_
      refine OwnW.lcmp (pc' := 39) d2_38 rfl ?_
      by_cases hc39 : (lcmpW c c) = (0 : Int32)
      ·
        refine OwnW.ifcN (pc' := 42) d2_39 ((if0 _ _).trans (teq hc39).2) rfl ?_
        refine OwnW.iloadN (pc' := 43) d2_42 rfl rfl ?_
        refine OwnW.goto (pc' := 47) d2_43 (by decide) (by decide) ?_
        exact OwnW.retI d2_47 rfl (by decide) (by decide) (⟨by first | (simp only [f2_3_3, if_pos hc17, if_pos hc17_1, if_pos hc39]; done) | (simp only [f2_3_3, if_pos hc17, if_pos hc17_1, if_pos hc39]; rfl), rfl⟩)
      ·
        refine OwnW.ifcY (pc' := 46) d2_39 ((if0 _ _).trans (feq hc39).2) (by decide) (by decide) ?_
        refine OwnW.iloadN (pc' := 47) d2_46 rfl rfl ?_
        exact OwnW.retI d2_47 rfl (by decide) (by decide) (⟨by first | (simp only [f2_3_3, if_pos hc17, if_pos hc17_1, if_neg hc39]; done) | (simp only [f2_3_3, if_pos hc17, if_pos hc17_1, if_neg hc39]; rfl), rfl⟩)
    ·
      refine OwnW.ifcY (pc' := 22) d2_17 ((if0 _ _).trans (flt hc17_1).2.1) (by decide) (by decide) ?_
      refine OwnW.iinc (pc' := 25) (L' := #[.val (.ref q0), .val (.int (2 : Int32)), .val (.int (1 : Int32)), .val (.int (3 : Int32))]) (d := (1 : Int32)) d2_22 rfl rfl rfl rfl ?_
      refine OwnW.goto (pc' := 4) d2_25 (by decide) (by decide) ?_
      refine OwnW.iloadN (pc' := 5) d2_4 rfl rfl ?_
      refine OwnW.aloadN (pc' := 6) d2_5 rfl (rfl) rfl ?_
      obtain ⟨cl10, Ar10, qk10, Sz10, Mn10, Hv10, Gf10⟩ := id V_a
      refine OwnW.alen (pc' := 7) (x := (3 : Int32)) d2_6 Ar10 (len_of Sz10 Mn10) rfl ?_
      refine OwnW.icmpY (pc' := 28) d2_7 (flt (by decide)).2.1 (by decide) (by decide) ?_
      refine OwnW.iloadN (pc' := 29) d2_28 rfl rfl ?_
      refine OwnW.ifcN (pc' := 32) d2_29 ((if0 _ _).trans (flt (by decide)).1) rfl ?_
      refine OwnW.aloadN (pc' := 33) d2_32 rfl (rfl) rfl ?_
      refine OwnW.iloadN (pc' := 34) d2_33 rfl rfl ?_
      obtain ⟨cl11, Ar11, qk11, Sz11, Mn11, Hv11, Gf11⟩ := id V_a
      refine OwnW.laload (pc' := 35) (v := (.long c)) d2_34 Ar11 (inb_of Sz11 ⟨by decide, by decide⟩) (Hv11.at (inb_of Sz11 ⟨by decide, by decide⟩) rfl) rfl ?_
      refine OwnW.aloadN (pc' := 36) d2_35 rfl (rfl) rfl ?_
      refine OwnW.iloadN (pc' := 37) d2_36 rfl rfl ?_
      obtain ⟨cl12, Ar12, qk12, Sz12, Mn12, Hv12, Gf12⟩ := id V_a
      refine OwnW.laload (pc' := 38) (v := (.long b)) d2_37 Ar12 (inb_of Sz12 ⟨by decide, by decide⟩) (Hv12.at (inb_of Sz12 ⟨by decide, by decide⟩) rfl) rfl ?_
      refine OwnW.lcmp (pc' := 39) d2_38 rfl ?_
      by_cases hc39 : (lcmpW c b) = (0 : Int32)
      ·
        refine OwnW.ifcN (pc' := 42) d2_39 ((if0 _ _).trans (teq hc39).2) rfl ?_
        refine OwnW.iloadN (pc' := 43) d2_42 rfl rfl ?_
        refine OwnW.goto (pc' := 47) d2_43 (by decide) (by decide) ?_
        exact OwnW.retI d2_47 rfl (by decide) (by decide) (⟨by first | (simp only [f2_3_3, if_pos hc17, if_neg hc17_1, if_pos hc39]; done) | (simp only [f2_3_3, if_pos hc17, if_neg hc17_1, if_pos hc39]; rfl), rfl⟩)
      ·
        refine OwnW.ifcY (pc' := 46) d2_39 ((if0 _ _).trans (feq hc39).2) (by decide) (by decide) ?_
        refine OwnW.iloadN (pc' := 47) d2_46 rfl rfl ?_
        exact OwnW.retI d2_47 rfl (by decide) (by decide) (⟨by first | (simp only [f2_3_3, if_pos hc17, if_neg hc17_1, if_neg hc39]; done) | (simp only [f2_3_3, if_pos hc17, if_neg hc17_1, if_neg hc39]; rfl), rfl⟩)
  ·
    refine OwnW.ifcY (pc' := 22) d2_17 ((if0 _ _).trans (flt hc17).2.1) (by decide) (by decide) ?_
    refine OwnW.iinc (pc' := 25) (L' := #[.val (.ref q0), .val (.int (2 : Int32)), .val (.int (0 : Int32)), .val (.int (2 : Int32))]) (d := (1 : Int32)) d2_22 rfl rfl rfl rfl ?_
    refine OwnW.goto (pc' := 4) d2_25 (by decide) (by decide) ?_
    refine OwnW.iloadN (pc' := 5) d2_4 rfl rfl ?_
    refine OwnW.aloadN (pc' := 6) d2_5 rfl (rfl) rfl ?_
    obtain ⟨cl13, Ar13, qk13, Sz13, Mn13, Hv13, Gf13⟩ := id V_a
    refine OwnW.alen (pc' := 7) (x := (3 : Int32)) d2_6 Ar13 (len_of Sz13 Mn13) rfl ?_
    refine OwnW.icmpN (pc' := 10) d2_7 (tlt (by decide)).2.1 rfl ?_
    refine OwnW.aloadN (pc' := 11) d2_10 rfl (rfl) rfl ?_
    refine OwnW.iloadN (pc' := 12) d2_11 rfl rfl ?_
    obtain ⟨cl14, Ar14, qk14, Sz14, Mn14, Hv14, Gf14⟩ := id V_a
    refine OwnW.laload (pc' := 13) (v := (.long c)) d2_12 Ar14 (inb_of Sz14 ⟨by decide, by decide⟩) (Hv14.at (inb_of Sz14 ⟨by decide, by decide⟩) rfl) rfl ?_
    refine OwnW.aloadN (pc' := 14) d2_13 rfl (rfl) rfl ?_
    refine OwnW.iloadN (pc' := 15) d2_14 rfl rfl ?_
    obtain ⟨cl15, Ar15, qk15, Sz15, Mn15, Hv15, Gf15⟩ := id V_a
    refine OwnW.laload (pc' := 16) (v := (.long a)) d2_15 Ar15 (inb_of Sz15 ⟨by decide, by decide⟩) (Hv15.at (inb_of Sz15 ⟨by decide, by decide⟩) rfl) rfl ?_
    refine OwnW.lcmp (pc' := 17) d2_16 rfl ?_
    by_cases hc17_1 : (lcmpW c a) < (0 : Int32)
    ·
      refine OwnW.ifcN (pc' := 20) d2_17 ((if0 _ _).trans (tlt hc17_1).2.1) rfl ?_
      refine OwnW.iloadN (pc' := 21) d2_20 rfl rfl ?_
      refine OwnW.istoreN (pc' := 22) (L' := #[.val (.ref q0), .val (.int (2 : Int32)), .val (.int (2 : Int32)), .val (.int (2 : Int32))]) d2_21 rfl rfl ?_
      refine OwnW.iinc (pc' := 25) (L' := #[.val (.ref q0), .val (.int (2 : Int32)), .val (.int (2 : Int32)), .val (.int (3 : Int32))]) (d := (1 : Int32)) d2_22 rfl rfl rfl rfl ?_
      refine OwnW.goto (pc' := 4) d2_25 (by decide) (by decide) ?_
      refine OwnW.iloadN (pc' := 5) d2_4 rfl rfl ?_
      refine OwnW.aloadN (pc' := 6) d2_5 rfl (rfl) rfl ?_
      obtain ⟨cl16, Ar16, qk16, Sz16, Mn16, Hv16, Gf16⟩ := id V_a
      refine OwnW.alen (pc' := 7) (x := (3 : Int32)) d2_6 Ar16 (len_of Sz16 Mn16) rfl ?_
      refine OwnW.icmpY (pc' := 28) d2_7 (flt (by decide)).2.1 (by decide) (by decide) ?_
      refine OwnW.iloadN (pc' := 29) d2_28 rfl rfl ?_
      refine OwnW.ifcN (pc' := 32) d2_29 ((if0 _ _).trans (flt (by decide)).1) rfl ?_
      refine OwnW.aloadN (pc' := 33) d2_32 rfl (rfl) rfl ?_
      refine OwnW.iloadN (pc' := 34) d2_33 rfl rfl ?_
      obtain ⟨cl17, Ar17, qk17, Sz17, Mn17, Hv17, Gf17⟩ := id V_a
      refine OwnW.laload (pc' := 35) (v := (.long c)) d2_34 Ar17 (inb_of Sz17 ⟨by decide, by decide⟩) (Hv17.at (inb_of Sz17 ⟨by decide, by decide⟩) rfl) rfl ?_
      refine OwnW.aloadN (pc' := 36) d2_35 rfl (rfl) rfl ?_
      refine OwnW.iloadN (pc' := 37) d2_36 rfl rfl ?_
      obtain ⟨cl18, Ar18, qk18, Sz18, Mn18, Hv18, Gf18⟩ := id V_a
      refine OwnW.laload (pc' := 38) (v := (.long c)) d2_37 Ar18 (inb_of Sz18 ⟨by decide, by decide⟩) (Hv18.at (inb_of Sz18 ⟨by decide, by decide⟩) rfl) rfl ?_
      refine OwnW.lcmp (pc' := 39) d2_38 rfl ?_
      by_cases hc39 : (lcmpW c c) = (0 : Int32)
      ·
        refine OwnW.ifcN (pc' := 42) d2_39 ((if0 _ _).trans (teq hc39).2) rfl ?_
        refine OwnW.iloadN (pc' := 43) d2_42 rfl rfl ?_
        refine OwnW.goto (pc' := 47) d2_43 (by decide) (by decide) ?_
        exact OwnW.retI d2_47 rfl (by decide) (by decide) (⟨by first | (simp only [f2_3_3, if_neg hc17, if_pos hc17_1, if_pos hc39]; done) | (simp only [f2_3_3, if_neg hc17, if_pos hc17_1, if_pos hc39]; rfl), rfl⟩)
      ·
        refine OwnW.ifcY (pc' := 46) d2_39 ((if0 _ _).trans (feq hc39).2) (by decide) (by decide) ?_
        refine OwnW.iloadN (pc' := 47) d2_46 rfl rfl ?_
        exact OwnW.retI d2_47 rfl (by decide) (by decide) (⟨by first | (simp only [f2_3_3, if_neg hc17, if_pos hc17_1, if_neg hc39]; done) | (simp only [f2_3_3, if_neg hc17, if_pos hc17_1, if_neg hc39]; rfl), rfl⟩)
    ·
      refine OwnW.ifcY (pc' := 22) d2_17 ((if0 _ _).trans (flt hc17_1).2.1) (by decide) (by decide) ?_
      refine OwnW.iinc (pc' := 25) (L' := #[.val (.ref q0), .val (.int (2 : Int32)), .val (.int (0 : Int32)), .val (.int (3 : Int32))]) (d := (1 : Int32)) d2_22 rfl rfl rfl rfl ?_
      refine OwnW.goto (pc' := 4) d2_25 (by decide) (by decide) ?_
      refine OwnW.iloadN (pc' := 5) d2_4 rfl rfl ?_
      refine OwnW.aloadN (pc' := 6) d2_5 rfl (rfl) rfl ?_
      obtain ⟨cl19, Ar19, qk19, Sz19, Mn19, Hv19, Gf19⟩ := id V_a
      refine OwnW.alen (pc' := 7) (x := (3 : Int32)) d2_6 Ar19 (len_of Sz19 Mn19) rfl ?_
      refine OwnW.icmpY (pc' := 28) d2_7 (flt (by decide)).2.1 (by decide) (by decide) ?_
      refine OwnW.iloadN (pc' := 29) d2_28 rfl rfl ?_
      refine OwnW.ifcN (pc' := 32) d2_29 ((if0 _ _).trans (flt (by decide)).1) rfl ?_
      refine OwnW.aloadN (pc' := 33) d2_32 rfl (rfl) rfl ?_
      refine OwnW.iloadN (pc' := 34) d2_33 rfl rfl ?_
      obtain ⟨cl20, Ar20, qk20, Sz20, Mn20, Hv20, Gf20⟩ := id V_a
      refine OwnW.laload (pc' := 35) (v := (.long c)) d2_34 Ar20 (inb_of Sz20 ⟨by decide, by decide⟩) (Hv20.at (inb_of Sz20 ⟨by decide, by decide⟩) rfl) rfl ?_
      refine OwnW.aloadN (pc' := 36) d2_35 rfl (rfl) rfl ?_
      refine OwnW.iloadN (pc' := 37) d2_36 rfl rfl ?_
      obtain ⟨cl21, Ar21, qk21, Sz21, Mn21, Hv21, Gf21⟩ := id V_a
      refine OwnW.laload (pc' := 38) (v := (.long a)) d2_37 Ar21 (inb_of Sz21 ⟨by decide, by decide⟩) (Hv21.at (inb_of Sz21 ⟨by decide, by decide⟩) rfl) rfl ?_
      refine OwnW.lcmp (pc' := 39) d2_38 rfl ?_
      by_cases hc39 : (lcmpW c a) = (0 : Int32)
      ·
        refine OwnW.ifcN (pc' := 42) d2_39 ((if0 _ _).trans (teq hc39).2) rfl ?_
        refine OwnW.iloadN (pc' := 43) d2_42 rfl rfl ?_
        refine OwnW.goto (pc' := 47) d2_43 (by decide) (by decide) ?_
        exact OwnW.retI d2_47 rfl (by decide) (by decide) (⟨by first | (simp only [f2_3_3, if_neg hc17, if_neg hc17_1, if_pos hc39]; done) | (simp only [f2_3_3, if_neg hc17, if_neg hc17_1, if_pos hc39]; rfl), rfl⟩)
      ·
        refine OwnW.ifcY (pc' := 46) d2_39 ((if0 _ _).trans (feq hc39).2) (by decide) (by decide) ?_
        refine OwnW.iloadN (pc' := 47) d2_46 rfl rfl ?_
        exact OwnW.retI d2_47 rfl (by decide) (by decide) (⟨by first | (simp only [f2_3_3, if_neg hc17, if_neg hc17_1, if_neg hc39]; done) | (simp only [f2_3_3, if_neg hc17, if_neg hc17_1, if_neg hc39]; rfl), rfl⟩)
def f2_4_0 (q0 : Addr) (kk : ClassId) (a : Int64) (b : Int64) (c : Int64) (d : Int64) : Int32 := (if (lcmpW b a) < (0 : Int32) then (if (lcmpW c b) < (0 : Int32) then (if (lcmpW d c) < (0 : Int32) then (3 : Int32) else (2 : Int32)) else (if (lcmpW d b) < (0 : Int32) then (3 : Int32) else (1 : Int32))) else (if (lcmpW c a) < (0 : Int32) then (if (lcmpW d c) < (0 : Int32) then (3 : Int32) else (2 : Int32)) else (if (lcmpW d a) < (0 : Int32) then (3 : Int32) else (0 : Int32))))
abbrev GoB2_4_0 (l : Launch) (Z : State) (n0 : Nat) (Q : Option Value → Heap → Prop) := Go l Z ({ frames := 0, cells := 0, slots := 0, locals := 0 } : Room) (⟨"com/example/parley/parley/treesearch/ByValue", "firstLeast", "([JI)I"⟩ : MethodName) prog_59_method_3_code 4 (some .int) n0 Q
theorem ef2_4_0 (m : MethodId) (q0 : Addr) : entryFrame m #[(.ref q0), (.int (-1 : Int32))] 4 = mkF m 0 #[.val (.ref q0), .val (.int (-1 : Int32)), .unset, .unset] [] := by first | (simp [entryFrame, mkF, argsToLocals, Value.category]; done) | rfl
set_option maxRecDepth 65536 in
set_option maxHeartbeats 40000000 in
theorem rm2_4_0 (l : Launch) (Z : State) (a0 : Array Value) (hw : ∀ d ∈ tables_1, d.before a0 Z = true) (q0 : Addr) (kk : ClassId) (a : Int64) (b : Int64) (c : Int64) (d : Int64) (h0 : Heap) (n0 : Nat) (V_a : Arv Z h0 q0 kk .long (4 : Int32) [(.long a), (.long b), (.long c), (.long d)] (.long (0 : Int64))) :
    Con l Z ({ frames := 0, cells := 0, slots := 0, locals := 0 } : Room) (⟨"com/example/parley/parley/treesearch/ByValue", "firstLeast", "([JI)I"⟩ : MethodName) prog_59_method_3_code 4 (some .int) n0 #[(.ref q0), (.int (-1 : Int32))] h0 (OwnW.Ret (some (.int (f2_4_0 q0 kk a b c d))) h0) := by
  refine OwnW.Con.of (by first | decide +kernel | exact plainFor_of_name (by simp [plainName, overriddenIn])) (fun m => ef2_4_0 m q0) ?_
  show GoB2_4_0 l Z n0 (OwnW.Ret (some (.int (f2_4_0 q0 kk a b c d))) h0) h0 0 0 0 #[.val (.ref q0), .val (.int (-1 : Int32)), .unset, .unset] []
  refine OwnW.iconst (pc' := 1) (v := (0 : Int32)) d2_0 rfl rfl ?_
  refine OwnW.istoreN (pc' := 2) (L' := #[.val (.ref q0), .val (.int (-1 : Int32)), .val (.int (0 : Int32)), .unset]) d2_1 rfl rfl ?_
  refine OwnW.iconst (pc' := 3) (v := (1 : Int32)) d2_2 rfl rfl ?_
  refine OwnW.istoreN (pc' := 4) (L' := #[.val (.ref q0), .val (.int (-1 : Int32)), .val (.int (0 : Int32)), .val (.int (1 : Int32))]) d2_3 rfl rfl ?_
  refine OwnW.iloadN (pc' := 5) d2_4 rfl rfl ?_
  refine OwnW.aloadN (pc' := 6) d2_5 rfl (rfl) rfl ?_
  obtain ⟨cl1, Ar1, qk1, Sz1, Mn1, Hv1, Gf1⟩ := id V_a
  refine OwnW.alen (pc' := 7) (x := (4 : Int32)) d2_6 Ar1 (len_of Sz1 Mn1) rfl ?_
  refine OwnW.icmpN (pc' := 10) d2_7 (tlt (by decide)).2.1 rfl ?_
  refine OwnW.aloadN (pc' := 11) d2_10 rfl (rfl) rfl ?_
  refine OwnW.iloadN (pc' := 12) d2_11 rfl rfl ?_
  obtain ⟨cl2, Ar2, qk2, Sz2, Mn2, Hv2, Gf2⟩ := id V_a
  refine OwnW.laload (pc' := 13) (v := (.long b)) d2_12 Ar2 (inb_of Sz2 ⟨by decide, by decide⟩) (Hv2.at (inb_of Sz2 ⟨by decide, by decide⟩) rfl) rfl ?_
  refine OwnW.aloadN (pc' := 14) d2_13 rfl (rfl) rfl ?_
  refine OwnW.iloadN (pc' := 15) d2_14 rfl rfl ?_
  obtain ⟨cl3, Ar3, qk3, Sz3, Mn3, Hv3, Gf3⟩ := id V_a
  refine OwnW.laload (pc' := 16) (v := (.long a)) d2_15 Ar3 (inb_of Sz3 ⟨by decide, by decide⟩) (Hv3.at (inb_of Sz3 ⟨by decide, by decide⟩) rfl) rfl ?_
  refine OwnW.lcmp (pc' := 17) d2_16 rfl ?_
  by_cases hc17 : (lcmpW b a) < (0 : Int32)
  ·
    refine OwnW.ifcN (pc' := 20) d2_17 ((if0 _ _).trans (tlt hc17).2.1) rfl ?_
    refine OwnW.iloadN (pc' := 21) d2_20 rfl rfl ?_
    refine OwnW.istoreN (pc' := 22) (L' := #[.val (.ref q0), .val (.int (-1 : Int32)), .val (.int (1 : Int32)), .val (.int (1 : Int32))]) d2_21 rfl rfl ?_
    refine OwnW.iinc (pc' := 25) (L' := #[.val (.ref q0), .val (.int (-1 : Int32)), .val (.int (1 : Int32)), .val (.int (2 : Int32))]) (d := (1 : Int32)) d2_22 rfl rfl rfl rfl ?_
    refine OwnW.goto (pc' := 4) d2_25 (by decide) (by decide) ?_
    refine OwnW.iloadN (pc' := 5) d2_4 rfl rfl ?_
    refine OwnW.aloadN (pc' := 6) d2_5 rfl (rfl) rfl ?_
    obtain ⟨cl4, Ar4, qk4, Sz4, Mn4, Hv4, Gf4⟩ := id V_a
    refine OwnW.alen (pc' := 7) (x := (4 : Int32)) d2_6 Ar4 (len_of Sz4 Mn4) rfl ?_
    refine OwnW.icmpN (pc' := 10) d2_7 (tlt (by decide)).2.1 rfl ?_
    refine OwnW.aloadN (pc' := 11) d2_10 rfl (rfl) rfl ?_
    refine OwnW.iloadN (pc' := 12) d2_11 rfl rfl ?_
    obtain ⟨cl5, Ar5, qk5, Sz5, Mn5, Hv5, Gf5⟩ := id V_a
    refine OwnW.laload (pc' := 13) (v := (.long c)) d2_12 Ar5 (inb_of Sz5 ⟨by decide, by decide⟩) (Hv5.at (inb_of Sz5 ⟨by decide, by decide⟩) rfl) rfl ?_
    refine OwnW.aloadN (pc' := 14) d2_13 rfl (rfl) rfl ?_
    refine OwnW.iloadN (pc' := 15) d2_14 rfl rfl ?_
    obtain ⟨cl6, Ar6, qk6, Sz6, Mn6, Hv6, Gf6⟩ := id V_a
    refine OwnW.laload (pc' := 16) (v := (.long b)) d2_15 Ar6 (inb_of Sz6 ⟨by decide, by decide⟩) (Hv6.at (inb_of Sz6 ⟨by decide, by decide⟩) rfl) rfl ?_
    refine OwnW.lcmp (pc' := 17) d2_16 rfl ?_
    by_cases hc17_1 : (lcmpW c b) < (0 : Int32)
    ·
      refine OwnW.ifcN (pc' := 20) d2_17 ((if0 _ _).trans (tlt hc17_1).2.1) rfl ?_
      refine OwnW.iloadN (pc' := 21) d2_20 rfl rfl ?_
      refine OwnW.istoreN (pc' := 22) (L' := #[.val (.ref q0), .val (.int (-1 : Int32)), .val (.int (2 : Int32)), .val (.int (2 : Int32))]) d2_21 rfl rfl ?_
      refine OwnW.iinc (pc' := 25) (L' := #[.val (.ref q0), .val (.int (-1 : Int32)), .val (.int (2 : Int32)), .val (.int (3 : Int32))]) (d := (1 : Int32)) d2_22 rfl rfl rfl rfl ?_
      refine OwnW.goto (pc' := 4) d2_25 (by decide) (by decide) ?_
      refine OwnW.iloadN (pc' := 5) d2_4 rfl rfl ?_
      refine OwnW.aloadN (pc' := 6) d2_5 rfl (rfl) rfl ?_
      obtain ⟨cl7, Ar7, qk7, Sz7, Mn7, Hv7, Gf7⟩ := id V_a
      refine OwnW.alen (pc' := 7) (x := (4 : Int32)) d2_6 Ar7 (len_of Sz7 Mn7) rfl ?_
      refine OwnW.icmpN (pc' := 10) d2_7 (tlt (by decide)).2.1 rfl ?_
      refine OwnW.aloadN (pc' := 11) d2_10 rfl (rfl) rfl ?_
      refine OwnW.iloadN (pc' := 12) d2_11 rfl rfl ?_
      obtain ⟨cl8, Ar8, qk8, Sz8, Mn8, Hv8, Gf8⟩ := id V_a
      refine OwnW.laload (pc' := 13) (v := (.long d)) d2_12 Ar8 (inb_of Sz8 ⟨by decide, by decide⟩) (Hv8.at (inb_of Sz8 ⟨by decide, by decide⟩) rfl) rfl ?_
      refine OwnW.aloadN (pc' := 14) d2_13 rfl (rfl) rfl ?_
      refine OwnW.iloadN (pc' := 15) d2_14 rfl rfl ?_
      obtain ⟨cl9, Ar9, qk9, Sz9, Mn9, Hv9, Gf9⟩ := id V_a
      refine OwnW.laload (pc' := 16) (v := (.long c)) d2_15 Ar9 (inb_of Sz9 ⟨by decide, by decide⟩) (Hv9.at (inb_of Sz9 ⟨by decide, by decide⟩) rfl) rfl ?_
      refine OwnW.lcmp (pc' := 17) d2_16 rfl ?_
      by_cases hc17_2 : (lcmpW d c) < (0 : Int32)
      ·
        refine OwnW.ifcN (pc' := 20) d2_17 ((if0 _ _).trans (tlt hc17_2).2.1) rfl ?_
        refine OwnW.iloadN (pc' := 21) d2_20 rfl rfl ?_
        refine OwnW.istoreN (pc' := 22) (L' := #[.val (.ref q0), .val (.int (-1 : Int32)), .val (.int (3 : Int32)), .val (.int (3 : Int32))]) d2_21 rfl rfl ?_
        refine OwnW.iinc (pc' := 25) (L' := #[.val (.ref q0), .val (.int (-1 : Int32)), .val (.int (3 : Int32)), .val (.int (4 : Int32))]) (d := (1 : Int32)) d2_22 rfl rfl rfl rfl ?_
        refine OwnW.goto (pc' := 4) d2_25 (by decide) (by decide) ?_
        refine OwnW.iloadN (pc' := 5) d2_4 rfl rfl ?_
        refine OwnW.aloadN (pc' := 6) d2_5 rfl (rfl) rfl ?_
        obtain ⟨cl10, Ar10, qk10, Sz10, Mn10, Hv10, Gf10⟩ := id V_a
        refine OwnW.alen (pc' := 7) (x := (4 : Int32)) d2_6 Ar10 (len_of Sz10 Mn10) rfl ?_
        refine OwnW.icmpY (pc' := 28) d2_7 (flt (by decide)).2.1 (by decide) (by decide) ?_
        refine OwnW.iloadN (pc' := 29) d2_28 rfl rfl ?_
        refine OwnW.ifcY (pc' := 46) d2_29 ((if0 _ _).trans (tlt (by decide)).1) (by decide) (by decide) ?_
        refine OwnW.iloadN (pc' := 47) d2_46 rfl rfl ?_
        exact OwnW.retI d2_47 rfl (by decide) (by decide) (⟨by first | (simp only [f2_4_0, if_pos hc17, if_pos hc17_1, if_pos hc17_2]; done) | (simp only [f2_4_0, if_pos hc17, if_pos hc17_1, if_pos hc17_2]; rfl), rfl⟩)
      ·
        refine OwnW.ifcY (pc' := 22) d2_17 ((if0 _ _).trans (flt hc17_2).2.1) (by decide) (by decide) ?_
        refine OwnW.iinc (pc' := 25) (L' := #[.val (.ref q0), .val (.int (-1 : Int32)), .val (.int (2 : Int32)), .val (.int (4 : Int32))]) (d := (1 : Int32)) d2_22 rfl rfl rfl rfl ?_
        refine OwnW.goto (pc' := 4) d2_25 (by decide) (by decide) ?_
        refine OwnW.iloadN (pc' := 5) d2_4 rfl rfl ?_
        refine OwnW.aloadN (pc' := 6) d2_5 rfl (rfl) rfl ?_
        obtain ⟨cl11, Ar11, qk11, Sz11, Mn11, Hv11, Gf11⟩ := id V_a
        refine OwnW.alen (pc' := 7) (x := (4 : Int32)) d2_6 Ar11 (len_of Sz11 Mn11) rfl ?_
        refine OwnW.icmpY (pc' := 28) d2_7 (flt (by decide)).2.1 (by decide) (by decide) ?_
        refine OwnW.iloadN (pc' := 29) d2_28 rfl rfl ?_
        refine OwnW.ifcY (pc' := 46) d2_29 ((if0 _ _).trans (tlt (by decide)).1) (by decide) (by decide) ?_
        refine OwnW.iloadN (pc' := 47) d2_46 rfl rfl ?_
        exact OwnW.retI d2_47 rfl (by decide) (by decide) (⟨by first | (simp only [f2_4_0, if_pos hc17, if_pos hc17_1, if_neg hc17_2]; done) | (simp only [f2_4_0, if_pos hc17, if_pos hc17_1, if_neg hc17_2]; rfl), rfl⟩)
    ·
      refine OwnW.ifcY (pc' := 22) d2_17 ((if0 _ _).trans (flt hc17_1).2.1) (by decide) (by decide) ?_
      refine OwnW.iinc (pc' := 25) (L' := #[.val (.ref q0), .val (.int (-1 : Int32)), .val (.int (1 : Int32)), .val (.int (3 : Int32))]) (d := (1 : Int32)) d2_22 rfl rfl rfl rfl ?_
      refine OwnW.goto (pc' := 4) d2_25 (by decide) (by decide) ?_
      refine OwnW.iloadN (pc' := 5) d2_4 rfl rfl ?_
      refine OwnW.aloadN (pc' := 6) d2_5 rfl (rfl) rfl ?_
      obtain ⟨cl12, Ar12, qk12, Sz12, Mn12, Hv12, Gf12⟩ := id V_a
      refine OwnW.alen (pc' := 7) (x := (4 : Int32)) d2_6 Ar12 (len_of Sz12 Mn12) rfl ?_
      refine OwnW.icmpN (pc' := 10) d2_7 (tlt (by decide)).2.1 rfl ?_
      refine OwnW.aloadN (pc' := 11) d2_10 rfl (rfl) rfl ?_
      refine OwnW.iloadN (pc' := 12) d2_11 rfl rfl ?_
      obtain ⟨cl13, Ar13, qk13, Sz13, Mn13, Hv13, Gf13⟩ := id V_a
      refine OwnW.laload (pc' := 13) (v := (.long d)) d2_12 Ar13 (inb_of Sz13 ⟨by decide, by decide⟩) (Hv13.at (inb_of Sz13 ⟨by decide, by decide⟩) rfl) rfl ?_
      refine OwnW.aloadN (pc' := 14) d2_13 rfl (rfl) rfl ?_
      refine OwnW.iloadN (pc' := 15) d2_14 rfl rfl ?_
      obtain ⟨cl14, Ar14, qk14, Sz14, Mn14, Hv14, Gf14⟩ := id V_a
      refine OwnW.laload (pc' := 16) (v := (.long b)) d2_15 Ar14 (inb_of Sz14 ⟨by decide, by decide⟩) (Hv14.at (inb_of Sz14 ⟨by decide, by decide⟩) rfl) rfl ?_
      refine OwnW.lcmp (pc' := 17) d2_16 rfl ?_
      by_cases hc17_2 : (lcmpW d b) < (0 : Int32)
      ·
        refine OwnW.ifcN (pc' := 20) d2_17 ((if0 _ _).trans (tlt hc17_2).2.1) rfl ?_
        refine OwnW.iloadN (pc' := 21) d2_20 rfl rfl ?_
        refine OwnW.istoreN (pc' := 22) (L' := #[.val (.ref q0), .val (.int (-1 : Int32)), .val (.int (3 : Int32)), .val (.int (3 : Int32))]) d2_21 rfl rfl ?_
        refine OwnW.iinc (pc' := 25) (L' := #[.val (.ref q0), .val (.int (-1 : Int32)), .val (.int (3 : Int32)), .val (.int (4 : Int32))]) (d := (1 : Int32)) d2_22 rfl rfl rfl rfl ?_
        refine OwnW.goto (pc' := 4) d2_25 (by decide) (by decide) ?_
        refine OwnW.iloadN (pc' := 5) d2_4 rfl rfl ?_
        refine OwnW.aloadN (pc' := 6) d2_5 rfl (rfl) rfl ?_
        obtain ⟨cl15, Ar15, qk15, Sz15, Mn15, Hv15, Gf15⟩ := id V_a
        refine OwnW.alen (pc' := 7) (x := (4 : Int32)) d2_6 Ar15 (len_of Sz15 Mn15) rfl ?_
        refine OwnW.icmpY (pc' := 28) d2_7 (flt (by decide)).2.1 (by decide) (by decide) ?_
        refine OwnW.iloadN (pc' := 29) d2_28 rfl rfl ?_
        refine OwnW.ifcY (pc' := 46) d2_29 ((if0 _ _).trans (tlt (by decide)).1) (by decide) (by decide) ?_
        refine OwnW.iloadN (pc' := 47) d2_46 rfl rfl ?_
        exact OwnW.retI d2_47 rfl (by decide) (by decide) (⟨by first | (simp only [f2_4_0, if_pos hc17, if_neg hc17_1, if_pos hc17_2]; done) | (simp only [f2_4_0, if_pos hc17, if_neg hc17_1, if_pos hc17_2]; rfl), rfl⟩)
      ·
        refine OwnW.ifcY (pc' := 22) d2_17 ((if0 _ _).trans (flt hc17_2).2.1) (by decide) (by decide) ?_
        refine OwnW.iinc (pc' := 25) (L' := #[.val (.ref q0), .val (.int (-1 : Int32)), .val (.int (1 : Int32)), .val (.int (4 : Int32))]) (d := (1 : Int32)) d2_22 rfl rfl rfl rfl ?_
        refine OwnW.goto (pc' := 4) d2_25 (by decide) (by decide) ?_
        refine OwnW.iloadN (pc' := 5) d2_4 rfl rfl ?_
        refine OwnW.aloadN (pc' := 6) d2_5 rfl (rfl) rfl ?_
        obtain ⟨cl16, Ar16, qk16, Sz16, Mn16, Hv16, Gf16⟩ := id V_a
        refine OwnW.alen (pc' := 7) (x := (4 : Int32)) d2_6 Ar16 (len_of Sz16 Mn16) rfl ?_
        refine OwnW.icmpY (pc' := 28) d2_7 (flt (by decide)).2.1 (by decide) (by decide) ?_
        refine OwnW.iloadN (pc' := 29) d2_28 rfl rfl ?_
        refine OwnW.ifcY (pc' := 46) d2_29 ((if0 _ _).trans (tlt (by decide)).1) (by decide) (by decide) ?_
        refine OwnW.iloadN (pc' := 47) d2_46 rfl rfl ?_
        exact OwnW.retI d2_47 rfl (by decide) (by decide) (⟨by first | (simp only [f2_4_0, if_pos hc17, if_neg hc17_1, if_neg hc17_2]; done) | (simp only [f2_4_0, if_pos hc17, if_neg hc17_1, if_neg hc17_2]; rfl), rfl⟩)
  ·
    refine OwnW.ifcY (pc' := 22) d2_17 ((if0 _ _).trans (flt hc17).2.1) (by decide) (by decide) ?_
    refine OwnW.iinc (pc' := 25) (L' := #[.val (.ref q0), .val (.int (-1 : Int32)), .val (.int (0 : Int32)), .val (.int (2 : Int32))]) (d := (1 : Int32)) d2_22 rfl rfl rfl rfl ?_
    refine OwnW.goto (pc' := 4) d2_25 (by decide) (by decide) ?_
    refine OwnW.iloadN (pc' := 5) d2_4 rfl rfl ?_
    refine OwnW.aloadN (pc' := 6) d2_5 rfl (rfl) rfl ?_
    obtain ⟨cl17, Ar17, qk17, Sz17, Mn17, Hv17, Gf17⟩ := id V_a
    refine OwnW.alen (pc' := 7) (x := (4 : Int32)) d2_6 Ar17 (len_of Sz17 Mn17) rfl ?_
    refine OwnW.icmpN (pc' := 10) d2_7 (tlt (by decide)).2.1 rfl ?_
    refine OwnW.aloadN (pc' := 11) d2_10 rfl (rfl) rfl ?_
    refine OwnW.iloadN (pc' := 12) d2_11 rfl rfl ?_
    obtain ⟨cl18, Ar18, qk18, Sz18, Mn18, Hv18, Gf18⟩ := id V_a
    refine OwnW.laload (pc' := 13) (v := (.long c)) d2_12 Ar18 (inb_of Sz18 ⟨by decide, by decide⟩) (Hv18.at (inb_of Sz18 ⟨by decide, by decide⟩) rfl) rfl ?_
    refine OwnW.aloadN (pc' := 14) d2_13 rfl (rfl) rfl ?_
    refine OwnW.iloadN (pc' := 15) d2_14 rfl rfl ?_
    obtain ⟨cl19, Ar19, qk19, Sz19, Mn19, Hv19, Gf19⟩ := id V_a
    refine OwnW.laload (pc' := 16) (v := (.long a)) d2_15 Ar19 (inb_of Sz19 ⟨by decide, by decide⟩) (Hv19.at (inb_of Sz19 ⟨by decide, by decide⟩) rfl) rfl ?_
    refine OwnW.lcmp (pc' := 17) d2_16 rfl ?_
    by_cases hc17_1 : (lcmpW c a) < (0 : Int32)
    ·
      refine OwnW.ifcN (pc' := 20) d2_17 ((if0 _ _).trans (tlt hc17_1).2.1) rfl ?_
      refine OwnW.iloadN (pc' := 21) d2_20 rfl rfl ?_
      refine OwnW.istoreN (pc' := 22) (L' := #[.val (.ref q0), .val (.int (-1 : Int32)), .val (.int (2 : Int32)), .val (.int (2 : Int32))]) d2_21 rfl rfl ?_
      refine OwnW.iinc (pc' := 25) (L' := #[.val (.ref q0), .val (.int (-1 : Int32)), .val (.int (2 : Int32)), .val (.int (3 : Int32))]) (d := (1 : Int32)) d2_22 rfl rfl rfl rfl ?_
      refine OwnW.goto (pc' := 4) d2_25 (by decide) (by decide) ?_
      refine OwnW.iloadN (pc' := 5) d2_4 rfl rfl ?_
      refine OwnW.aloadN (pc' := 6) d2_5 rfl (rfl) rfl ?_
      obtain ⟨cl20, Ar20, qk20, Sz20, Mn20, Hv20, Gf20⟩ := id V_a
      refine OwnW.alen (pc' := 7) (x := (4 : Int32)) d2_6 Ar20 (len_of Sz20 Mn20) rfl ?_
      refine OwnW.icmpN (pc' := 10) d2_7 (tlt (by decide)).2.1 rfl ?_
      refine OwnW.aloadN (pc' := 11) d2_10 rfl (rfl) rfl ?_
      refine OwnW.iloadN (pc' := 12) d2_11 rfl rfl ?_
      obtain ⟨cl21, Ar21, qk21, Sz21, Mn21, Hv21, Gf21⟩ := id V_a
      refine OwnW.laload (pc' := 13) (v := (.long d)) d2_12 Ar21 (inb_of Sz21 ⟨by decide, by decide⟩) (Hv21.at (inb_of Sz21 ⟨by decide, by decide⟩) rfl) rfl ?_
      refine OwnW.aloadN (pc' := 14) d2_13 rfl (rfl) rfl ?_
      refine OwnW.iloadN (pc' := 15) d2_14 rfl rfl ?_
      obtain ⟨cl22, Ar22, qk22, Sz22, Mn22, Hv22, Gf22⟩ := id V_a
      refine OwnW.laload (pc' := 16) (v := (.long c)) d2_15 Ar22 (inb_of Sz22 ⟨by decide, by decide⟩) (Hv22.at (inb_of Sz22 ⟨by decide, by decide⟩) rfl) rfl ?_
      refine OwnW.lcmp (pc' := 17) d2_16 rfl ?_
      by_cases hc17_2 : (lcmpW d c) < (0 : Int32)
      ·
        refine OwnW.ifcN (pc' := 20) d2_17 ((if0 _ _).trans (tlt hc17_2).2.1) rfl ?_
        refine OwnW.iloadN (pc' := 21) d2_20 rfl rfl ?_
        refine OwnW.istoreN (pc' := 22) (L' := #[.val (.ref q0), .val (.int (-1 : Int32)), .val (.int (3 : Int32)), .val (.int (3 : Int32))]) d2_21 rfl rfl ?_
        refine OwnW.iinc (pc' := 25) (L' := #[.val (.ref q0), .val (.int (-1 : Int32)), .val (.int (3 : Int32)), .val (.int (4 : Int32))]) (d := (1 : Int32)) d2_22 rfl rfl rfl rfl ?_
        refine OwnW.goto (pc' := 4) d2_25 (by decide) (by decide) ?_
        refine OwnW.iloadN (pc' := 5) d2_4 rfl rfl ?_
        refine OwnW.aloadN (pc' := 6) d2_5 rfl (rfl) rfl ?_
        obtain ⟨cl23, Ar23, qk23, Sz23, Mn23, Hv23, Gf23⟩ := id V_a
        refine OwnW.alen (pc' := 7) (x := (4 : Int32)) d2_6 Ar23 (len_of Sz23 Mn23) rfl ?_
        refine OwnW.icmpY (pc' := 28) d2_7 (flt (by decide)).2.1 (by decide) (by decide) ?_
        refine OwnW.iloadN (pc' := 29) d2_28 rfl rfl ?_
        refine OwnW.ifcY (pc' := 46) d2_29 ((if0 _ _).trans (tlt (by decide)).1) (by decide) (by decide) ?_
        refine OwnW.iloadN (pc' := 47) d2_46 rfl rfl ?_
        exact OwnW.retI d2_47 rfl (by decide) (by decide) (⟨by first | (simp only [f2_4_0, if_neg hc17, if_pos hc17_1, if_pos hc17_2]; done) | (simp only [f2_4_0, if_neg hc17, if_pos hc17_1, if_pos hc17_2]; rfl), rfl⟩)
      ·
        refine OwnW.ifcY (pc' := 22) d2_17 ((if0 _ _).trans (flt hc17_2).2.1) (by decide) (by decide) ?_
        refine OwnW.iinc (pc' := 25) (L' := #[.val (.ref q0), .val (.int (-1 : Int32)), .val (.int (2 : Int32)), .val (.int (4 : Int32))]) (d := (1 : Int32)) d2_22 rfl rfl rfl rfl ?_
        refine OwnW.goto (pc' := 4) d2_25 (by decide) (by decide) ?_
        refine OwnW.iloadN (pc' := 5) d2_4 rfl rfl ?_
        refine OwnW.aloadN (pc' := 6) d2_5 rfl (rfl) rfl ?_
        obtain ⟨cl24, Ar24, qk24, Sz24, Mn24, Hv24, Gf24⟩ := id V_a
        refine OwnW.alen (pc' := 7) (x := (4 : Int32)) d2_6 Ar24 (len_of Sz24 Mn24) rfl ?_
        refine OwnW.icmpY (pc' := 28) d2_7 (flt (by decide)).2.1 (by decide) (by decide) ?_
        refine OwnW.iloadN (pc' := 29) d2_28 rfl rfl ?_
        refine OwnW.ifcY (pc' := 46) d2_29 ((if0 _ _).trans (tlt (by decide)).1) (by decide) (by decide) ?_
        refine OwnW.iloadN (pc' := 47) d2_46 rfl rfl ?_
        exact OwnW.retI d2_47 rfl (by decide) (by decide) (⟨by first | (simp only [f2_4_0, if_neg hc17, if_pos hc17_1, if_neg hc17_2]; done) | (simp only [f2_4_0, if_neg hc17, if_pos hc17_1, if_neg hc17_2]; rfl), rfl⟩)
    ·
      refine OwnW.ifcY (pc' := 22) d2_17 ((if0 _ _).trans (flt hc17_1).2.1) (by decide) (by decide) ?_
      refine OwnW.iinc (pc' := 25) (L' := #[.val (.ref q0), .val (.int (-1 : Int32)), .val (.int (0 : Int32)), .val (.int (3 : Int32))]) (d := (1 : Int32)) d2_22 rfl rfl rfl rfl ?_
      refine OwnW.goto (pc' := 4) d2_25 (by decide) (by decide) ?_
      refine OwnW.iloadN (pc' := 5) d2_4 rfl rfl ?_
      refine OwnW.aloadN (pc' := 6) d2_5 rfl (rfl) rfl ?_
      obtain ⟨cl25, Ar25, qk25, Sz25, Mn25, Hv25, Gf25⟩ := id V_a
      refine OwnW.alen (pc' := 7) (x := (4 : Int32)) d2_6 Ar25 (len_of Sz25 Mn25) rfl ?_
      refine OwnW.icmpN (pc' := 10) d2_7 (tlt (by decide)).2.1 rfl ?_
      refine OwnW.aloadN (pc' := 11) d2_10 rfl (rfl) rfl ?_
      refine OwnW.iloadN (pc' := 12) d2_11 rfl rfl ?_
      obtain ⟨cl26, Ar26, qk26, Sz26, Mn26, Hv26, Gf26⟩ := id V_a
      refine OwnW.laload (pc' := 13) (v := (.long d)) d2_12 Ar26 (inb_of Sz26 ⟨by decide, by decide⟩) (Hv26.at (inb_of Sz26 ⟨by decide, by decide⟩) rfl) rfl ?_
      refine OwnW.aloadN (pc' := 14) d2_13 rfl (rfl) rfl ?_
      refine OwnW.iloadN (pc' := 15) d2_14 rfl rfl ?_
      obtain ⟨cl27, Ar27, qk27, Sz27, Mn27, Hv27, Gf27⟩ := id V_a
      refine OwnW.laload (pc' := 16) (v := (.long a)) d2_15 Ar27 (inb_of Sz27 ⟨by decide, by decide⟩) (Hv27.at (inb_of Sz27 ⟨by decide, by decide⟩) rfl) rfl ?_
      refine OwnW.lcmp (pc' := 17) d2_16 rfl ?_
      by_cases hc17_2 : (lcmpW d a) < (0 : Int32)
      ·
        refine OwnW.ifcN (pc' := 20) d2_17 ((if0 _ _).trans (tlt hc17_2).2.1) rfl ?_
        refine OwnW.iloadN (pc' := 21) d2_20 rfl rfl ?_
        refine OwnW.istoreN (pc' := 22) (L' := #[.val (.ref q0), .val (.int (-1 : Int32)), .val (.int (3 : Int32)), .val (.int (3 : Int32))]) d2_21 rfl rfl ?_
        refine OwnW.iinc (pc' := 25) (L' := #[.val (.ref q0), .val (.int (-1 : Int32)), .val (.int (3 : Int32)), .val (.int (4 : Int32))]) (d := (1 : Int32)) d2_22 rfl rfl rfl rfl ?_
        refine OwnW.goto (pc' := 4) d2_25 (by decide) (by decide) ?_
        refine OwnW.iloadN (pc' := 5) d2_4 rfl rfl ?_
        refine OwnW.aloadN (pc' := 6) d2_5 rfl (rfl) rfl ?_
        obtain ⟨cl28, Ar28, qk28, Sz28, Mn28, Hv28, Gf28⟩ := id V_a
        refine OwnW.alen (pc' := 7) (x := (4 : Int32)) d2_6 Ar28 (len_of Sz28 Mn28) rfl ?_
        refine OwnW.icmpY (pc' := 28) d2_7 (flt (by decide)).2.1 (by decide) (by decide) ?_
        refine OwnW.iloadN (pc' := 29) d2_28 rfl rfl ?_
        refine OwnW.ifcY (pc' := 46) d2_29 ((if0 _ _).trans (tlt (by decide)).1) (by decide) (by decide) ?_
        refine OwnW.iloadN (pc' := 47) d2_46 rfl rfl ?_
        exact OwnW.retI d2_47 rfl (by decide) (by decide) (⟨by first | (simp only [f2_4_0, if_neg hc17, if_neg hc17_1, if_pos hc17_2]; done) | (simp only [f2_4_0, if_neg hc17, if_neg hc17_1, if_pos hc17_2]; rfl), rfl⟩)
      ·
        refine OwnW.ifcY (pc' := 22) d2_17 ((if0 _ _).trans (flt hc17_2).2.1) (by decide) (by decide) ?_
        refine OwnW.iinc (pc' := 25) (L' := #[.val (.ref q0), .val (.int (-1 : Int32)), .val (.int (0 : Int32)), .val (.int (4 : Int32))]) (d := (1 : Int32)) d2_22 rfl rfl rfl rfl ?_
        refine OwnW.goto (pc' := 4) d2_25 (by decide) (by decide) ?_
        refine OwnW.iloadN (pc' := 5) d2_4 rfl rfl ?_
        refine OwnW.aloadN (pc' := 6) d2_5 rfl (rfl) rfl ?_
        obtain ⟨cl29, Ar29, qk29, Sz29, Mn29, Hv29, Gf29⟩ := id V_a
        refine OwnW.alen (pc' := 7) (x := (4 : Int32)) d2_6 Ar29 (len_of Sz29 Mn29) rfl ?_
        refine OwnW.icmpY (pc' := 28) d2_7 (flt (by decide)).2.1 (by decide) (by decide) ?_
        refine OwnW.iloadN (pc' := 29) d2_28 rfl rfl ?_
        refine OwnW.ifcY (pc' := 46) d2_29 ((if0 _ _).trans (tlt (by decide)).1) (by decide) (by decide) ?_
        refine OwnW.iloadN (pc' := 47) d2_46 rfl rfl ?_
        exact OwnW.retI d2_47 rfl (by decide) (by decide) (⟨by first | (simp only [f2_4_0, if_neg hc17, if_neg hc17_1, if_neg hc17_2]; done) | (simp only [f2_4_0, if_neg hc17, if_neg hc17_1, if_neg hc17_2]; rfl), rfl⟩)
def f2_4_1 (q0 : Addr) (kk : ClassId) (a : Int64) (b : Int64) (c : Int64) (d : Int64) : Int32 := (if (lcmpW b a) < (0 : Int32) then (if (lcmpW c b) < (0 : Int32) then (if (lcmpW d c) < (0 : Int32) then (if (lcmpW a d) = (0 : Int32) then (0 : Int32) else (3 : Int32)) else (if (lcmpW a c) = (0 : Int32) then (0 : Int32) else (2 : Int32))) else (if (lcmpW d b) < (0 : Int32) then (if (lcmpW a d) = (0 : Int32) then (0 : Int32) else (3 : Int32)) else (if (lcmpW a b) = (0 : Int32) then (0 : Int32) else (1 : Int32)))) else (if (lcmpW c a) < (0 : Int32) then (if (lcmpW d c) < (0 : Int32) then (if (lcmpW a d) = (0 : Int32) then (0 : Int32) else (3 : Int32)) else (if (lcmpW a c) = (0 : Int32) then (0 : Int32) else (2 : Int32))) else (if (lcmpW d a) < (0 : Int32) then (if (lcmpW a d) = (0 : Int32) then (0 : Int32) else (3 : Int32)) else (0 : Int32))))
abbrev GoB2_4_1 (l : Launch) (Z : State) (n0 : Nat) (Q : Option Value → Heap → Prop) := Go l Z ({ frames := 0, cells := 0, slots := 0, locals := 0 } : Room) (⟨"com/example/parley/parley/treesearch/ByValue", "firstLeast", "([JI)I"⟩ : MethodName) prog_59_method_3_code 4 (some .int) n0 Q
theorem ef2_4_1 (m : MethodId) (q0 : Addr) : entryFrame m #[(.ref q0), (.int (0 : Int32))] 4 = mkF m 0 #[.val (.ref q0), .val (.int (0 : Int32)), .unset, .unset] [] := by first | (simp [entryFrame, mkF, argsToLocals, Value.category]; done) | rfl
set_option maxRecDepth 65536 in
set_option maxHeartbeats 40000000 in
theorem rm2_4_1 (l : Launch) (Z : State) (a0 : Array Value) (hw : ∀ d ∈ tables_1, d.before a0 Z = true) (q0 : Addr) (kk : ClassId) (a : Int64) (b : Int64) (c : Int64) (d : Int64) (h0 : Heap) (n0 : Nat) (V_a : Arv Z h0 q0 kk .long (4 : Int32) [(.long a), (.long b), (.long c), (.long d)] (.long (0 : Int64))) :
    Con l Z ({ frames := 0, cells := 0, slots := 0, locals := 0 } : Room) (⟨"com/example/parley/parley/treesearch/ByValue", "firstLeast", "([JI)I"⟩ : MethodName) prog_59_method_3_code 4 (some .int) n0 #[(.ref q0), (.int (0 : Int32))] h0 (OwnW.Ret (some (.int (f2_4_1 q0 kk a b c d))) h0) := by
  refine OwnW.Con.of (by first | decide +kernel | exact plainFor_of_name (by simp [plainName, overriddenIn])) (fun m => ef2_4_1 m q0) ?_
  show GoB2_4_1 l Z n0 (OwnW.Ret (some (.int (f2_4_1 q0 kk a b c d))) h0) h0 0 0 0 #[.val (.ref q0), .val (.int (0 : Int32)), .unset, .unset] []
  refine OwnW.iconst (pc' := 1) (v := (0 : Int32)) d2_0 rfl rfl ?_
  refine OwnW.istoreN (pc' := 2) (L' := #[.val (.ref q0), .val (.int (0 : Int32)), .val (.int (0 : Int32)), .unset]) d2_1 rfl rfl ?_
  refine OwnW.iconst (pc' := 3) (v := (1 : Int32)) d2_2 rfl rfl ?_
  refine OwnW.istoreN (pc' := 4) (L' := #[.val (.ref q0), .val (.int (0 : Int32)), .val (.int (0 : Int32)), .val (.int (1 : Int32))]) d2_3 rfl rfl ?_
  refine OwnW.iloadN (pc' := 5) d2_4 rfl rfl ?_
  refine OwnW.aloadN (pc' := 6) d2_5 rfl (rfl) rfl ?_
  obtain ⟨cl1, Ar1, qk1, Sz1, Mn1, Hv1, Gf1⟩ := id V_a
  refine OwnW.alen (pc' := 7) (x := (4 : Int32)) d2_6 Ar1 (len_of Sz1 Mn1) rfl ?_
  refine OwnW.icmpN (pc' := 10) d2_7 (tlt (by decide)).2.1 rfl ?_
  refine OwnW.aloadN (pc' := 11) d2_10 rfl (rfl) rfl ?_
  refine OwnW.iloadN (pc' := 12) d2_11 rfl rfl ?_
  obtain ⟨cl2, Ar2, qk2, Sz2, Mn2, Hv2, Gf2⟩ := id V_a
  refine OwnW.laload (pc' := 13) (v := (.long b)) d2_12 Ar2 (inb_of Sz2 ⟨by decide, by decide⟩) (Hv2.at (inb_of Sz2 ⟨by decide, by decide⟩) rfl) rfl ?_
  refine OwnW.aloadN (pc' := 14) d2_13 rfl (rfl) rfl ?_
  refine OwnW.iloadN (pc' := 15) d2_14 rfl rfl ?_
  obtain ⟨cl3, Ar3, qk3, Sz3, Mn3, Hv3, Gf3⟩ := id V_a
  refine OwnW.laload (pc' := 16) (v := (.long a)) d2_15 Ar3 (inb_of Sz3 ⟨by decide, by decide⟩) (Hv3.at (inb_of Sz3 ⟨by decide, by decide⟩) rfl) rfl ?_
  refine OwnW.lcmp (pc' := 17) d2_16 rfl ?_
  by_cases hc17 : (lcmpW b a) < (0 : Int32)
  ·
    refine OwnW.ifcN (pc' := 20) d2_17 ((if0 _ _).trans (tlt hc17).2.1) rfl ?_
    refine OwnW.iloadN (pc' := 21) d2_20 rfl rfl ?_
    refine OwnW.istoreN (pc' := 22) (L' := #[.val (.ref q0), .val (.int (0 : Int32)), .val (.int (1 : Int32)), .val (.int (1 : Int32))]) d2_21 rfl rfl ?_
    refine OwnW.iinc (pc' := 25) (L' := #[.val (.ref q0), .val (.int (0 : Int32)), .val (.int (1 : Int32)), .val (.int (2 : Int32))]) (d := (1 : Int32)) d2_22 rfl rfl rfl rfl ?_
    refine OwnW.goto (pc' := 4) d2_25 (by decide) (by decide) ?_
    refine OwnW.iloadN (pc' := 5) d2_4 rfl rfl ?_
    refine OwnW.aloadN (pc' := 6) d2_5 rfl (rfl) rfl ?_
    obtain ⟨cl4, Ar4, qk4, Sz4, Mn4, Hv4, Gf4⟩ := id V_a
    refine OwnW.alen (pc' := 7) (x := (4 : Int32)) d2_6 Ar4 (len_of Sz4 Mn4) rfl ?_
    refine OwnW.icmpN (pc' := 10) d2_7 (tlt (by decide)).2.1 rfl ?_
    refine OwnW.aloadN (pc' := 11) d2_10 rfl (rfl) rfl ?_
    refine OwnW.iloadN (pc' := 12) d2_11 rfl rfl ?_
    obtain ⟨cl5, Ar5, qk5, Sz5, Mn5, Hv5, Gf5⟩ := id V_a
    refine OwnW.laload (pc' := 13) (v := (.long c)) d2_12 Ar5 (inb_of Sz5 ⟨by decide, by decide⟩) (Hv5.at (inb_of Sz5 ⟨by decide, by decide⟩) rfl) rfl ?_
    refine OwnW.aloadN (pc' := 14) d2_13 rfl (rfl) rfl ?_
    refine OwnW.iloadN (pc' := 15) d2_14 rfl rfl ?_
    obtain ⟨cl6, Ar6, qk6, Sz6, Mn6, Hv6, Gf6⟩ := id V_a
    refine OwnW.laload (pc' := 16) (v := (.long b)) d2_15 Ar6 (inb_of Sz6 ⟨by decide, by decide⟩) (Hv6.at (inb_of Sz6 ⟨by decide, by decide⟩) rfl) rfl ?_
    refine OwnW.lcmp (pc' := 17) d2_16 rfl ?_
    by_cases hc17_1 : (lcmpW c b) < (0 : Int32)
    ·
      refine OwnW.ifcN (pc' := 20) d2_17 ((if0 _ _).trans (tlt hc17_1).2.1) rfl ?_
      refine OwnW.iloadN (pc' := 21) d2_20 rfl rfl ?_
      refine OwnW.istoreN (pc' := 22) (L' := #[.val (.ref q0), .val (.int (0 : Int32)), .val (.int (2 : Int32)), .val (.int (2 : Int32))]) d2_21 rfl rfl ?_
      refine OwnW.iinc (pc' := 25) (L' := #[.val (.ref q0), .val (.int (0 : Int32)), .val (.int (2 : Int32)), .val (.int (3 : Int32))]) (d := (1 : Int32)) d2_22 rfl rfl rfl rfl ?_
      refine OwnW.goto (pc' := 4) d2_25 (by decide) (by decide) ?_
      refine OwnW.iloadN (pc' := 5) d2_4 rfl rfl ?_
      refine OwnW.aloadN (pc' := 6) d2_5 rfl (rfl) rfl ?_
      obtain ⟨cl7, Ar7, qk7, Sz7, Mn7, Hv7, Gf7⟩ := id V_a
      refine OwnW.alen (pc' := 7) (x := (4 : Int32)) d2_6 Ar7 (len_of Sz7 Mn7) rfl ?_
      refine OwnW.icmpN (pc' := 10) d2_7 (tlt (by decide)).2.1 rfl ?_
      refine OwnW.aloadN (pc' := 11) d2_10 rfl (rfl) rfl ?_
      refine OwnW.iloadN (pc' := 12) d2_11 rfl rfl ?_
      obtain ⟨cl8, Ar8, qk8, Sz8, Mn8, Hv8, Gf8⟩ := id V_a
      refine OwnW.laload (pc' := 13) (v := (.long d)) d2_12 Ar8 (inb_of Sz8 ⟨by decide, by decide⟩) (Hv8.at (inb_of Sz8 ⟨by decide, by decide⟩) rfl) rfl ?_
      refine OwnW.aloadN (pc' := 14) d2_13 rfl (rfl) rfl ?_
      refine OwnW.iloadN (pc' := 15) d2_14 rfl rfl ?_
      obtain ⟨cl9, Ar9, qk9, Sz9, Mn9, Hv9, Gf9⟩ := id V_a
      refine OwnW.laload (pc' := 16) (v := (.long c)) d2_15 Ar9 (inb_of Sz9 ⟨by decide, by decide⟩) (Hv9.at (inb_of Sz9 ⟨by decide, by decide⟩) rfl) rfl ?_
      refine OwnW.lcmp (pc' := 17) d2_16 rfl ?_
      by_cases hc17_2 : (lcmpW d c) < (0 : Int32)
      ·
        refine OwnW.ifcN (pc' := 20) d2_17 ((if0 _ _).trans (tlt hc17_2).2.1) rfl ?_
        refine OwnW.iloadN (pc' := 21) d2_20 rfl rfl ?_
        refine OwnW.istoreN (pc' := 22) (L' := #[.val (.ref q0), .val (.int (0 : Int32)), .val (.int (3 : Int32)), .val (.int (3 : Int32))]) d2_21 rfl rfl ?_
        refine OwnW.iinc (pc' := 25) (L' := #[.val (.ref q0), .val (.int (0 : Int32)), .val (.int (3 : Int32)), .val (.int (4 : Int32))]) (d := (1 : Int32)) d2_22 rfl rfl rfl rfl ?_
        refine OwnW.goto (pc' := 4) d2_25 (by decide) (by decide) ?_
        refine OwnW.iloadN (pc' := 5) d2_4 rfl rfl ?_
        refine OwnW.aloadN (pc' := 6) d2_5 rfl (rfl) rfl ?_
        obtain ⟨cl10, Ar10, qk10, Sz10, Mn10, Hv10, Gf10⟩ := id V_a
        refine OwnW.alen (pc' := 7) (x := (4 : Int32)) d2_6 Ar10 (len_of Sz10 Mn10) rfl ?_
        refine OwnW.icmpY (pc' := 28) d2_7 (flt (by decide)).2.1 (by decide) (by decide) ?_
        refine OwnW.iloadN (pc' := 29) d2_28 rfl rfl ?_
        refine OwnW.ifcN (pc' := 32) d2_29 ((if0 _ _).trans (flt (by decide)).1) rfl ?_
        refine OwnW.aloadN (pc' := 33) d2_32 rfl (rfl) rfl ?_
        refine OwnW.iloadN (pc' := 34) d2_33 rfl rfl ?_
        obtain ⟨cl11, Ar11, qk11, Sz11, Mn11, Hv11, Gf11⟩ := id V_a
        refine OwnW.laload (pc' := 35) (v := (.long a)) d2_34 Ar11 (inb_of Sz11 ⟨by decide, by decide⟩) (Hv11.at (inb_of Sz11 ⟨by decide, by decide⟩) rfl) rfl ?_
        refine OwnW.aloadN (pc' := 36) d2_35 rfl (rfl) rfl ?_
        refine OwnW.iloadN (pc' := 37) d2_36 rfl rfl ?_
        obtain ⟨cl12, Ar12, qk12, Sz12, Mn12, Hv12, Gf12⟩ := id V_a
        refine OwnW.laload (pc' := 38) (v := (.long d)) d2_37 Ar12 (inb_of Sz12 ⟨by decide, by decide⟩) (Hv12.at (inb_of Sz12 ⟨by decide, by decide⟩) rfl) rfl ?_
        refine OwnW.lcmp (pc' := 39) d2_38 rfl ?_
        by_cases hc39 : (lcmpW a d) = (0 : Int32)
        ·
          refine OwnW.ifcN (pc' := 42) d2_39 ((if0 _ _).trans (teq hc39).2) rfl ?_
          refine OwnW.iloadN (pc' := 43) d2_42 rfl rfl ?_
          refine OwnW.goto (pc' := 47) d2_43 (by decide) (by decide) ?_
          exact OwnW.retI d2_47 rfl (by decide) (by decide) (⟨by first | (simp only [f2_4_1, if_pos hc17, if_pos hc17_1, if_pos hc17_2, if_pos hc39]; done) | (simp only [f2_4_1, if_pos hc17, if_pos hc17_1, if_pos hc17_2, if_pos hc39]; rfl), rfl⟩)
        ·
          refine OwnW.ifcY (pc' := 46) d2_39 ((if0 _ _).trans (feq hc39).2) (by decide) (by decide) ?_
          refine OwnW.iloadN (pc' := 47) d2_46 rfl rfl ?_
          exact OwnW.retI d2_47 rfl (by decide) (by decide) (⟨by first | (simp only [f2_4_1, if_pos hc17, if_pos hc17_1, if_pos hc17_2, if_neg hc39]; done) | (simp only [f2_4_1, if_pos hc17, if_pos hc17_1, if_pos hc17_2, if_neg hc39]; rfl), rfl⟩)
      ·
        refine OwnW.ifcY (pc' := 22) d2_17 ((if0 _ _).trans (flt hc17_2).2.1) (by decide) (by decide) ?_
        refine OwnW.iinc (pc' := 25) (L' := #[.val (.ref q0), .val (.int (0 : Int32)), .val (.int (2 : Int32)), .val (.int (4 : Int32))]) (d := (1 : Int32)) d2_22 rfl rfl rfl rfl ?_
        refine OwnW.goto (pc' := 4) d2_25 (by decide) (by decide) ?_
        refine OwnW.iloadN (pc' := 5) d2_4 rfl rfl ?_
        refine OwnW.aloadN (pc' := 6) d2_5 rfl (rfl) rfl ?_
        obtain ⟨cl13, Ar13, qk13, Sz13, Mn13, Hv13, Gf13⟩ := id V_a
        refine OwnW.alen (pc' := 7) (x := (4 : Int32)) d2_6 Ar13 (len_of Sz13 Mn13) rfl ?_
        refine OwnW.icmpY (pc' := 28) d2_7 (flt (by decide)).2.1 (by decide) (by decide) ?_
        refine OwnW.iloadN (pc' := 29) d2_28 rfl rfl ?_
        refine OwnW.ifcN (pc' := 32) d2_29 ((if0 _ _).trans (flt (by decide)).1) rfl ?_
        refine OwnW.aloadN (pc' := 33) d2_32 rfl (rfl) rfl ?_
        refine OwnW.iloadN (pc' := 34) d2_33 rfl rfl ?_
        obtain ⟨cl14, Ar14, qk14, Sz14, Mn14, Hv14, Gf14⟩ := id V_a
        refine OwnW.laload (pc' := 35) (v := (.long a)) d2_34 Ar14 (inb_of Sz14 ⟨by decide, by decide⟩) (Hv14.at (inb_of Sz14 ⟨by decide, by decide⟩) rfl) rfl ?_
        refine OwnW.aloadN (pc' := 36) d2_35 rfl (rfl) rfl ?_
        refine OwnW.iloadN (pc' := 37) d2_36 rfl rfl ?_
        obtain ⟨cl15, Ar15, qk15, Sz15, Mn15, Hv15, Gf15⟩ := id V_a
        refine OwnW.laload (pc' := 38) (v := (.long c)) d2_37 Ar15 (inb_of Sz15 ⟨by decide, by decide⟩) (Hv15.at (inb_of Sz15 ⟨by decide, by decide⟩) rfl) rfl ?_
        refine OwnW.lcmp (pc' := 39) d2_38 rfl ?_
        by_cases hc39 : (lcmpW a c) = (0 : Int32)
        ·
          refine OwnW.ifcN (pc' := 42) d2_39 ((if0 _ _).trans (teq hc39).2) rfl ?_
          refine OwnW.iloadN (pc' := 43) d2_42 rfl rfl ?_
          refine OwnW.goto (pc' := 47) d2_43 (by decide) (by decide) ?_
          exact OwnW.retI d2_47 rfl (by decide) (by decide) (⟨by first | (simp only [f2_4_1, if_pos hc17, if_pos hc17_1, if_neg hc17_2, if_pos hc39]; done) | (simp only [f2_4_1, if_pos hc17, if_pos hc17_1, if_neg hc17_2, if_pos hc39]; rfl), rfl⟩)
        ·
          refine OwnW.ifcY (pc' := 46) d2_39 ((if0 _ _).trans (feq hc39).2) (by decide) (by decide) ?_
          refine OwnW.iloadN (pc' := 47) d2_46 rfl rfl ?_
          exact OwnW.retI d2_47 rfl (by decide) (by decide) (⟨by first | (simp only [f2_4_1, if_pos hc17, if_pos hc17_1, if_neg hc17_2, if_neg hc39]; done) | (simp only [f2_4_1, if_pos hc17, if_pos hc17_1, if_neg hc17_2, if_neg hc39]; rfl), rfl⟩)
    ·
      refine OwnW.ifcY (pc' := 22) d2_17 ((if0 _ _).trans (flt hc17_1).2.1) (by decide) (by decide) ?_
      refine OwnW.iinc (pc' := 25) (L' := #[.val (.ref q0), .val (.int (0 : Int32)), .val (.int (1 : Int32)), .val (.int (3 : Int32))]) (d := (1 : Int32)) d2_22 rfl rfl rfl rfl ?_
      refine OwnW.goto (pc' := 4) d2_25 (by decide) (by decide) ?_
      refine OwnW.iloadN (pc' := 5) d2_4 rfl rfl ?_
      refine OwnW.aloadN (pc' := 6) d2_5 rfl (rfl) rfl ?_
      obtain ⟨cl16, Ar16, qk16, Sz16, Mn16, Hv16, Gf16⟩ := id V_a
      refine OwnW.alen (pc' := 7) (x := (4 : Int32)) d2_6 Ar16 (len_of Sz16 Mn16) rfl ?_
      refine OwnW.icmpN (pc' := 10) d2_7 (tlt (by decide)).2.1 rfl ?_
      refine OwnW.aloadN (pc' := 11) d2_10 rfl (rfl) rfl ?_
      refine OwnW.iloadN (pc' := 12) d2_11 rfl rfl ?_
      obtain ⟨cl17, Ar17, qk17, Sz17, Mn17, Hv17, Gf17⟩ := id V_a
      refine OwnW.laload (pc' := 13) (v := (.long d)) d2_12 Ar17 (inb_of Sz17 ⟨by decide, by decide⟩) (Hv17.at (inb_of Sz17 ⟨by decide, by decide⟩) rfl) rfl ?_
      refine OwnW.aloadN (pc' := 14) d2_13 rfl (rfl) rfl ?_
      refine OwnW.iloadN (pc' := 15) d2_14 rfl rfl ?_
      obtain ⟨cl18, Ar18, qk18, Sz18, Mn18, Hv18, Gf18⟩ := id V_a
      refine OwnW.laload (pc' := 16) (v := (.long b)) d2_15 Ar18 (inb_of Sz18 ⟨by decide, by decide⟩) (Hv18.at (inb_of Sz18 ⟨by decide, by decide⟩) rfl) rfl ?_
      refine OwnW.lcmp (pc' := 17) d2_16 rfl ?_
      by_cases hc17_2 : (lcmpW d b) < (0 : Int32)
      ·
        refine OwnW.ifcN (pc' := 20) d2_17 ((if0 _ _).trans (tlt hc17_2).2.1) rfl ?_
        refine OwnW.iloadN (pc' := 21) d2_20 rfl rfl ?_
        refine OwnW.istoreN (pc' := 22) (L' := #[.val (.ref q0), .val (.int (0 : Int32)), .val (.int (3 : Int32)), .val (.int (3 : Int32))]) d2_21 rfl rfl ?_
        refine OwnW.iinc (pc' := 25) (L' := #[.val (.ref q0), .val (.int (0 : Int32)), .val (.int (3 : Int32)), .val (.int (4 : Int32))]) (d := (1 : Int32)) d2_22 rfl rfl rfl rfl ?_
        refine OwnW.goto (pc' := 4) d2_25 (by decide) (by decide) ?_
        refine OwnW.iloadN (pc' := 5) d2_4 rfl rfl ?_
        refine OwnW.aloadN (pc' := 6) d2_5 rfl (rfl) rfl ?_
        obtain ⟨cl19, Ar19, qk19, Sz19, Mn19, Hv19, Gf19⟩ := id V_a
        refine OwnW.alen (pc' := 7) (x := (4 : Int32)) d2_6 Ar19 (len_of Sz19 Mn19) rfl ?_
        refine OwnW.icmpY (pc' := 28) d2_7 (flt (by decide)).2.1 (by decide) (by decide) ?_
        refine OwnW.iloadN (pc' := 29) d2_28 rfl rfl ?_
        refine OwnW.ifcN (pc' := 32) d2_29 ((if0 _ _).trans (flt (by decide)).1) rfl ?_
        refine OwnW.aloadN (pc' := 33) d2_32 rfl (rfl) rfl ?_
        refine OwnW.iloadN (pc' := 34) d2_33 rfl rfl ?_
        obtain ⟨cl20, Ar20, qk20, Sz20, Mn20, Hv20, Gf20⟩ := id V_a
        refine OwnW.laload (pc' := 35) (v := (.long a)) d2_34 Ar20 (inb_of Sz20 ⟨by decide, by decide⟩) (Hv20.at (inb_of Sz20 ⟨by decide, by decide⟩) rfl) rfl ?_
        refine OwnW.aloadN (pc' := 36) d2_35 rfl (rfl) rfl ?_
        refine OwnW.iloadN (pc' := 37) d2_36 rfl rfl ?_
        obtain ⟨cl21, Ar21, qk21, Sz21, Mn21, Hv21, Gf21⟩ := id V_a
        refine OwnW.laload (pc' := 38) (v := (.long d)) d2_37 Ar21 (inb_of Sz21 ⟨by decide, by decide⟩) (Hv21.at (inb_of Sz21 ⟨by decide, by decide⟩) rfl) rfl ?_
        refine OwnW.lcmp (pc' := 39) d2_38 rfl ?_
        by_cases hc39 : (lcmpW a d) = (0 : Int32)
        ·
          refine OwnW.ifcN (pc' := 42) d2_39 ((if0 _ _).trans (teq hc39).2) rfl ?_
          refine OwnW.iloadN (pc' := 43) d2_42 rfl rfl ?_
          refine OwnW.goto (pc' := 47) d2_43 (by decide) (by decide) ?_
          exact OwnW.retI d2_47 rfl (by decide) (by decide) (⟨by first | (simp only [f2_4_1, if_pos hc17, if_neg hc17_1, if_pos hc17_2, if_pos hc39]; done) | (simp only [f2_4_1, if_pos hc17, if_neg hc17_1, if_pos hc17_2, if_pos hc39]; rfl), rfl⟩)
        ·
          refine OwnW.ifcY (pc' := 46) d2_39 ((if0 _ _).trans (feq hc39).2) (by decide) (by decide) ?_
          refine OwnW.iloadN (pc' := 47) d2_46 rfl rfl ?_
          exact OwnW.retI d2_47 rfl (by decide) (by decide) (⟨by first | (simp only [f2_4_1, if_pos hc17, if_neg hc17_1, if_pos hc17_2, if_neg hc39]; done) | (simp only [f2_4_1, if_pos hc17, if_neg hc17_1, if_pos hc17_2, if_neg hc39]; rfl), rfl⟩)
      ·
        refine OwnW.ifcY (pc' := 22) d2_17 ((if0 _ _).trans (flt hc17_2).2.1) (by decide) (by decide) ?_
        refine OwnW.iinc (pc' := 25) (L' := #[.val (.ref q0), .val (.int (0 : Int32)), .val (.int (1 : Int32)), .val (.int (4 : Int32))]) (d := (1 : Int32)) d2_22 rfl rfl rfl rfl ?_
        refine OwnW.goto (pc' := 4) d2_25 (by decide) (by decide) ?_
        refine OwnW.iloadN (pc' := 5) d2_4 rfl rfl ?_
        refine OwnW.aloadN (pc' := 6) d2_5 rfl (rfl) rfl ?_
        obtain ⟨cl22, Ar22, qk22, Sz22, Mn22, Hv22, Gf22⟩ := id V_a
        refine OwnW.alen (pc' := 7) (x := (4 : Int32)) d2_6 Ar22 (len_of Sz22 Mn22) rfl ?_
        refine OwnW.icmpY (pc' := 28) d2_7 (flt (by decide)).2.1 (by decide) (by decide) ?_
        refine OwnW.iloadN (pc' := 29) d2_28 rfl rfl ?_
        refine OwnW.ifcN (pc' := 32) d2_29 ((if0 _ _).trans (flt (by decide)).1) rfl ?_
        refine OwnW.aloadN (pc' := 33) d2_32 rfl (rfl) rfl ?_
        refine OwnW.iloadN (pc' := 34) d2_33 rfl rfl ?_
        obtain ⟨cl23, Ar23, qk23, Sz23, Mn23, Hv23, Gf23⟩ := id V_a
        refine OwnW.laload (pc' := 35) (v := (.long a)) d2_34 Ar23 (inb_of Sz23 ⟨by decide, by decide⟩) (Hv23.at (inb_of Sz23 ⟨by decide, by decide⟩) rfl) rfl ?_
        refine OwnW.aloadN (pc' := 36) d2_35 rfl (rfl) rfl ?_
        refine OwnW.iloadN (pc' := 37) d2_36 rfl rfl ?_
        obtain ⟨cl24, Ar24, qk24, Sz24, Mn24, Hv24, Gf24⟩ := id V_a
        refine OwnW.laload (pc' := 38) (v := (.long b)) d2_37 Ar24 (inb_of Sz24 ⟨by decide, by decide⟩) (Hv24.at (inb_of Sz24 ⟨by decide, by decide⟩) rfl) rfl ?_
        refine OwnW.lcmp (pc' := 39) d2_38 rfl ?_
        by_cases hc39 : (lcmpW a b) = (0 : Int32)
        ·
          refine OwnW.ifcN (pc' := 42) d2_39 ((if0 _ _).trans (teq hc39).2) rfl ?_
          refine OwnW.iloadN (pc' := 43) d2_42 rfl rfl ?_
          refine OwnW.goto (pc' := 47) d2_43 (by decide) (by decide) ?_
          exact OwnW.retI d2_47 rfl (by decide) (by decide) (⟨by first | (simp only [f2_4_1, if_pos hc17, if_neg hc17_1, if_neg hc17_2, if_pos hc39]; done) | (simp only [f2_4_1, if_pos hc17, if_neg hc17_1, if_neg hc17_2, if_pos hc39]; rfl), rfl⟩)
        ·
          refine OwnW.ifcY (pc' := 46) d2_39 ((if0 _ _).trans (feq hc39).2) (by decide) (by decide) ?_
          refine OwnW.iloadN (pc' := 47) d2_46 rfl rfl ?_
          exact OwnW.retI d2_47 rfl (by decide) (by decide) (⟨by first | (simp only [f2_4_1, if_pos hc17, if_neg hc17_1, if_neg hc17_2, if_neg hc39]; done) | (simp only [f2_4_1, if_pos hc17, if_neg hc17_1, if_neg hc17_2, if_neg hc39]; rfl), rfl⟩)
  ·
    refine OwnW.ifcY (pc' := 22) d2_17 ((if0 _ _).trans (flt hc17).2.1) (by decide) (by decide) ?_
    refine OwnW.iinc (pc' := 25) (L' := #[.val (.ref q0), .val (.int (0 : Int32)), .val (.int (0 : Int32)), .val (.int (2 : Int32))]) (d := (1 : Int32)) d2_22 rfl rfl rfl rfl ?_
    refine OwnW.goto (pc' := 4) d2_25 (by decide) (by decide) ?_
    refine OwnW.iloadN (pc' := 5) d2_4 rfl rfl ?_
    refine OwnW.aloadN (pc' := 6) d2_5 rfl (rfl) rfl ?_
    obtain ⟨cl25, Ar25, qk25, Sz25, Mn25, Hv25, Gf25⟩ := id V_a
    refine OwnW.alen (pc' := 7) (x := (4 : Int32)) d2_6 Ar25 (len_of Sz25 Mn25) rfl ?_
    refine OwnW.icmpN (pc' := 10) d2_7 (tlt (by decide)).2.1 rfl ?_
    refine OwnW.aloadN (pc' := 11) d2_10 rfl (rfl) rfl ?_
    refine OwnW.iloadN (pc' := 12) d2_11 rfl rfl ?_
    obtain ⟨cl26, Ar26, qk26, Sz26, Mn26, Hv26, Gf26⟩ := id V_a
    refine OwnW.laload (pc' := 13) (v := (.long c)) d2_12 Ar26 (inb_of Sz26 ⟨by decide, by decide⟩) (Hv26.at (inb_of Sz26 ⟨by decide, by decide⟩) rfl) rfl ?_
    refine OwnW.aloadN (pc' := 14) d2_13 rfl (rfl) rfl ?_
    refine OwnW.iloadN (pc' := 15) d2_14 rfl rfl ?_
    obtain ⟨cl27, Ar27, qk27, Sz27, Mn27, Hv27, Gf27⟩ := id V_a
    refine OwnW.laload (pc' := 16) (v := (.long a)) d2_15 Ar27 (inb_of Sz27 ⟨by decide, by decide⟩) (Hv27.at (inb_of Sz27 ⟨by decide, by decide⟩) rfl) rfl ?_
    refine OwnW.lcmp (pc' := 17) d2_16 rfl ?_
    by_cases hc17_1 : (lcmpW c a) < (0 : Int32)
    ·
      refine OwnW.ifcN (pc' := 20) d2_17 ((if0 _ _).trans (tlt hc17_1).2.1) rfl ?_
      refine OwnW.iloadN (pc' := 21) d2_20 rfl rfl ?_
      refine OwnW.istoreN (pc' := 22) (L' := #[.val (.ref q0), .val (.int (0 : Int32)), .val (.int (2 : Int32)), .val (.int (2 : Int32))]) d2_21 rfl rfl ?_
      refine OwnW.iinc (pc' := 25) (L' := #[.val (.ref q0), .val (.int (0 : Int32)), .val (.int (2 : Int32)), .val (.int (3 : Int32))]) (d := (1 : Int32)) d2_22 rfl rfl rfl rfl ?_
      refine OwnW.goto (pc' := 4) d2_25 (by decide) (by decide) ?_
      refine OwnW.iloadN (pc' := 5) d2_4 rfl rfl ?_
      refine OwnW.aloadN (pc' := 6) d2_5 rfl (rfl) rfl ?_
      obtain ⟨cl28, Ar28, qk28, Sz28, Mn28, Hv28, Gf28⟩ := id V_a
      refine OwnW.alen (pc' := 7) (x := (4 : Int32)) d2_6 Ar28 (len_of Sz28 Mn28) rfl ?_
      refine OwnW.icmpN (pc' := 10) d2_7 (tlt (by decide)).2.1 rfl ?_
      refine OwnW.aloadN (pc' := 11) d2_10 rfl (rfl) rfl ?_
      refine OwnW.iloadN (pc' := 12) d2_11 rfl rfl ?_
      obtain ⟨cl29, Ar29, qk29, Sz29, Mn29, Hv29, Gf29⟩ := id V_a
      refine OwnW.laload (pc' := 13) (v := (.long d)) d2_12 Ar29 (inb_of Sz29 ⟨by decide, by decide⟩) (Hv29.at (inb_of Sz29 ⟨by decide, by decide⟩) rfl) rfl ?_
      refine OwnW.aloadN (pc' := 14) d2_13 rfl (rfl) rfl ?_
      refine OwnW.iloadN (pc' := 15) d2_14 rfl rfl ?_
      obtain ⟨cl30, Ar30, qk30, Sz30, Mn30, Hv30, Gf30⟩ := id V_a
      refine OwnW.laload (pc' := 16) (v := (.long c)) d2_15 Ar30 (inb_of Sz30 ⟨by decide, by decide⟩) (Hv30.at (inb_of Sz30 ⟨by decide, by decide⟩) rfl) rfl ?_
      refine OwnW.lcmp (pc' := 17) d2_16 rfl ?_
      by_cases hc17_2 : (lcmpW d c) < (0 : Int32)
      ·
        refine OwnW.ifcN (pc' := 20) d2_17 ((if0 _ _).trans (tlt hc17_2).2.1) rfl ?_
        refine OwnW.iloadN (pc' := 21) d2_20 rfl rfl ?_
        refine OwnW.istoreN (pc' := 22) (L' := #[.val (.ref q0), .val (.int (0 : Int32)), .val (.int (3 : Int32)), .val (.int (3 : Int32))]) d2_21 rfl rfl ?_
        refine OwnW.iinc (pc' := 25) (L' := #[.val (.ref q0), .val (.int (0 : Int32)), .val (.int (3 : Int32)), .val (.int (4 : Int32))]) (d := (1 : Int32)) d2_22 rfl rfl rfl rfl ?_
        refine OwnW.goto (pc' := 4) d2_25 (by decide) (by decide) ?_
        refine OwnW.iloadN (pc' := 5) d2_4 rfl rfl ?_
        refine OwnW.aloadN (pc' := 6) d2_5 rfl (rfl) rfl ?_
        obtain ⟨cl31, Ar31, qk31, Sz31, Mn31, Hv31, Gf31⟩ := id V_a
        refine OwnW.alen (pc' := 7) (x := (4 : Int32)) d2_6 Ar31 (len_of Sz31 Mn31) rfl ?_
        refine OwnW.icmpY (pc' := 28) d2_7 (flt (by decide)).2.1 (by decide) (by decide) ?_
        refine OwnW.iloadN (pc' := 29) d2_28 rfl rfl ?_
        refine OwnW.ifcN (pc' := 32) d2_29 ((if0 _ _).trans (flt (by decide)).1) rfl ?_
        refine OwnW.aloadN (pc' := 33) d2_32 rfl (rfl) rfl ?_
        refine OwnW.iloadN (pc' := 34) d2_33 rfl rfl ?_
        obtain ⟨cl32, Ar32, qk32, Sz32, Mn32, Hv32, Gf32⟩ := id V_a
        refine OwnW.laload (pc' := 35) (v := (.long a)) d2_34 Ar32 (inb_of Sz32 ⟨by decide, by decide⟩) (Hv32.at (inb_of Sz32 ⟨by decide, by decide⟩) rfl) rfl ?_
        refine OwnW.aloadN (pc' := 36) d2_35 rfl (rfl) rfl ?_
        refine OwnW.iloadN (pc' := 37) d2_36 rfl rfl ?_
        obtain ⟨cl33, Ar33, qk33, Sz33, Mn33, Hv33, Gf33⟩ := id V_a
        refine OwnW.laload (pc' := 38) (v := (.long d)) d2_37 Ar33 (inb_of Sz33 ⟨by decide, by decide⟩) (Hv33.at (inb_of Sz33 ⟨by decide, by decide⟩) rfl) rfl ?_
        refine OwnW.lcmp (pc' := 39) d2_38 rfl ?_
        by_cases hc39 : (lcmpW a d) = (0 : Int32)
        ·
          refine OwnW.ifcN (pc' := 42) d2_39 ((if0 _ _).trans (teq hc39).2) rfl ?_
          refine OwnW.iloadN (pc' := 43) d2_42 rfl rfl ?_
          refine OwnW.goto (pc' := 47) d2_43 (by decide) (by decide) ?_
          exact OwnW.retI d2_47 rfl (by decide) (by decide) (⟨by first | (simp only [f2_4_1, if_neg hc17, if_pos hc17_1, if_pos hc17_2, if_pos hc39]; done) | (simp only [f2_4_1, if_neg hc17, if_pos hc17_1, if_pos hc17_2, if_pos hc39]; rfl), rfl⟩)
        ·
          refine OwnW.ifcY (pc' := 46) d2_39 ((if0 _ _).trans (feq hc39).2) (by decide) (by decide) ?_
          refine OwnW.iloadN (pc' := 47) d2_46 rfl rfl ?_
          exact OwnW.retI d2_47 rfl (by decide) (by decide) (⟨by first | (simp only [f2_4_1, if_neg hc17, if_pos hc17_1, if_pos hc17_2, if_neg hc39]; done) | (simp only [f2_4_1, if_neg hc17, if_pos hc17_1, if_pos hc17_2, if_neg hc39]; rfl), rfl⟩)
      ·
        refine OwnW.ifcY (pc' := 22) d2_17 ((if0 _ _).trans (flt hc17_2).2.1) (by decide) (by decide) ?_
        refine OwnW.iinc (pc' := 25) (L' := #[.val (.ref q0), .val (.int (0 : Int32)), .val (.int (2 : Int32)), .val (.int (4 : Int32))]) (d := (1 : Int32)) d2_22 rfl rfl rfl rfl ?_
        refine OwnW.goto (pc' := 4) d2_25 (by decide) (by decide) ?_
        refine OwnW.iloadN (pc' := 5) d2_4 rfl rfl ?_
        refine OwnW.aloadN (pc' := 6) d2_5 rfl (rfl) rfl ?_
        obtain ⟨cl34, Ar34, qk34, Sz34, Mn34, Hv34, Gf34⟩ := id V_a
        refine OwnW.alen (pc' := 7) (x := (4 : Int32)) d2_6 Ar34 (len_of Sz34 Mn34) rfl ?_
        refine OwnW.icmpY (pc' := 28) d2_7 (flt (by decide)).2.1 (by decide) (by decide) ?_
        refine OwnW.iloadN (pc' := 29) d2_28 rfl rfl ?_
        refine OwnW.ifcN (pc' := 32) d2_29 ((if0 _ _).trans (flt (by decide)).1) rfl ?_
        refine OwnW.aloadN (pc' := 33) d2_32 rfl (rfl) rfl ?_
        refine OwnW.iloadN (pc' := 34) d2_33 rfl rfl ?_
        obtain ⟨cl35, Ar35, qk35, Sz35, Mn35, Hv35, Gf35⟩ := id V_a
        refine OwnW.laload (pc' := 35) (v := (.long a)) d2_34 Ar35 (inb_of Sz35 ⟨by decide, by decide⟩) (Hv35.at (inb_of Sz35 ⟨by decide, by decide⟩) rfl) rfl ?_
        refine OwnW.aloadN (pc' := 36) d2_35 rfl (rfl) rfl ?_
        refine OwnW.iloadN (pc' := 37) d2_36 rfl rfl ?_
        obtain ⟨cl36, Ar36, qk36, Sz36, Mn36, Hv36, Gf36⟩ := id V_a
        refine OwnW.laload (pc' := 38) (v := (.long c)) d2_37 Ar36 (inb_of Sz36 ⟨by decide, by decide⟩) (Hv36.at (inb_of Sz36 ⟨by decide, by decide⟩) rfl) rfl ?_
        refine OwnW.lcmp (pc' := 39) d2_38 rfl ?_
        by_cases hc39 : (lcmpW a c) = (0 : Int32)
        ·
          refine OwnW.ifcN (pc' := 42) d2_39 ((if0 _ _).trans (teq hc39).2) rfl ?_
          refine OwnW.iloadN (pc' := 43) d2_42 rfl rfl ?_
          refine OwnW.goto (pc' := 47) d2_43 (by decide) (by decide) ?_
          exact OwnW.retI d2_47 rfl (by decide) (by decide) (⟨by first | (simp only [f2_4_1, if_neg hc17, if_pos hc17_1, if_neg hc17_2, if_pos hc39]; done) | (simp only [f2_4_1, if_neg hc17, if_pos hc17_1, if_neg hc17_2, if_pos hc39]; rfl), rfl⟩)
        ·
          refine OwnW.ifcY (pc' := 46) d2_39 ((if0 _ _).trans (feq hc39).2) (by decide) (by decide) ?_
          refine OwnW.iloadN (pc' := 47) d2_46 rfl rfl ?_
          exact OwnW.retI d2_47 rfl (by decide) (by decide) (⟨by first | (simp only [f2_4_1, if_neg hc17, if_pos hc17_1, if_neg hc17_2, if_neg hc39]; done) | (simp only [f2_4_1, if_neg hc17, if_pos hc17_1, if_neg hc17_2, if_neg hc39]; rfl), rfl⟩)
    ·
      refine OwnW.ifcY (pc' := 22) d2_17 ((if0 _ _).trans (flt hc17_1).2.1) (by decide) (by decide) ?_
      refine OwnW.iinc (pc' := 25) (L' := #[.val (.ref q0), .val (.int (0 : Int32)), .val (.int (0 : Int32)), .val (.int (3 : Int32))]) (d := (1 : Int32)) d2_22 rfl rfl rfl rfl ?_
      refine OwnW.goto (pc' := 4) d2_25 (by decide) (by decide) ?_
      refine OwnW.iloadN (pc' := 5) d2_4 rfl rfl ?_
      refine OwnW.aloadN (pc' := 6) d2_5 rfl (rfl) rfl ?_
      obtain ⟨cl37, Ar37, qk37, Sz37, Mn37, Hv37, Gf37⟩ := id V_a
      refine OwnW.alen (pc' := 7) (x := (4 : Int32)) d2_6 Ar37 (len_of Sz37 Mn37) rfl ?_
      refine OwnW.icmpN (pc' := 10) d2_7 (tlt (by decide)).2.1 rfl ?_
      refine OwnW.aloadN (pc' := 11) d2_10 rfl (rfl) rfl ?_
      refine OwnW.iloadN (pc' := 12) d2_11 rfl rfl ?_
      obtain ⟨cl38, Ar38, qk38, Sz38, Mn38, Hv38, Gf38⟩ := id V_a
      refine OwnW.laload (pc' := 13) (v := (.long d)) d2_12 Ar38 (inb_of Sz38 ⟨by decide, by decide⟩) (Hv38.at (inb_of Sz38 ⟨by decide, by decide⟩) rfl) rfl ?_
      refine OwnW.aloadN (pc' := 14) d2_13 rfl (rfl) rfl ?_
      refine OwnW.iloadN (pc' := 15) d2_14 rfl rfl ?_
      obtain ⟨cl39, Ar39, qk39, Sz39, Mn39, Hv39, Gf39⟩ := id V_a
      refine OwnW.laload (pc' := 16) (v := (.long a)) d2_15 Ar39 (inb_of Sz39 ⟨by decide, by decide⟩) (Hv39.at (inb_of Sz39 ⟨by decide, by decide⟩) rfl) rfl ?_
      refine OwnW.lcmp (pc' := 17) d2_16 rfl ?_
      by_cases hc17_2 : (lcmpW d a) < (0 : Int32)
      ·
        refine OwnW.ifcN (pc' := 20) d2_17 ((if0 _ _).trans (tlt hc17_2).2.1) rfl ?_
        refine OwnW.iloadN (pc' := 21) d2_20 rfl rfl ?_
        refine OwnW.istoreN (pc' := 22) (L' := #[.val (.ref q0), .val (.int (0 : Int32)), .val (.int (3 : Int32)), .val (.int (3 : Int32))]) d2_21 rfl rfl ?_
        refine OwnW.iinc (pc' := 25) (L' := #[.val (.ref q0), .val (.int (0 : Int32)), .val (.int (3 : Int32)), .val (.int (4 : Int32))]) (d := (1 : Int32)) d2_22 rfl rfl rfl rfl ?_
        refine OwnW.goto (pc' := 4) d2_25 (by decide) (by decide) ?_
        refine OwnW.iloadN (pc' := 5) d2_4 rfl rfl ?_
        refine OwnW.aloadN (pc' := 6) d2_5 rfl (rfl) rfl ?_
        obtain ⟨cl40, Ar40, qk40, Sz40, Mn40, Hv40, Gf40⟩ := id V_a
        refine OwnW.alen (pc' := 7) (x := (4 : Int32)) d2_6 Ar40 (len_of Sz40 Mn40) rfl ?_
        refine OwnW.icmpY (pc' := 28) d2_7 (flt (by decide)).2.1 (by decide) (by decide) ?_
        refine OwnW.iloadN (pc' := 29) d2_28 rfl rfl ?_
        refine OwnW.ifcN (pc' := 32) d2_29 ((if0 _ _).trans (flt (by decide)).1) rfl ?_
        refine OwnW.aloadN (pc' := 33) d2_32 rfl (rfl) rfl ?_
        refine OwnW.iloadN (pc' := 34) d2_33 rfl rfl ?_
        obtain ⟨cl41, Ar41, qk41, Sz41, Mn41, Hv41, Gf41⟩ := id V_a
        refine OwnW.laload (pc' := 35) (v := (.long a)) d2_34 Ar41 (inb_of Sz41 ⟨by decide, by decide⟩) (Hv41.at (inb_of Sz41 ⟨by decide, by decide⟩) rfl) rfl ?_
        refine OwnW.aloadN (pc' := 36) d2_35 rfl (rfl) rfl ?_
        refine OwnW.iloadN (pc' := 37) d2_36 rfl rfl ?_
        obtain ⟨cl42, Ar42, qk42, Sz42, Mn42, Hv42, Gf42⟩ := id V_a
        refine OwnW.laload (pc' := 38) (v := (.long d)) d2_37 Ar42 (inb_of Sz42 ⟨by decide, by decide⟩) (Hv42.at (inb_of Sz42 ⟨by decide, by decide⟩) rfl) rfl ?_
        refine OwnW.lcmp (pc' := 39) d2_38 rfl ?_
        by_cases hc39 : (lcmpW a d) = (0 : Int32)
        ·
          refine OwnW.ifcN (pc' := 42) d2_39 ((if0 _ _).trans (teq hc39).2) rfl ?_
          refine OwnW.iloadN (pc' := 43) d2_42 rfl rfl ?_
          refine OwnW.goto (pc' := 47) d2_43 (by decide) (by decide) ?_
          exact OwnW.retI d2_47 rfl (by decide) (by decide) (⟨by first | (simp only [f2_4_1, if_neg hc17, if_neg hc17_1, if_pos hc17_2, if_pos hc39]; done) | (simp only [f2_4_1, if_neg hc17, if_neg hc17_1, if_pos hc17_2, if_pos hc39]; rfl), rfl⟩)
        ·
          refine OwnW.ifcY (pc' := 46) d2_39 ((if0 _ _).trans (feq hc39).2) (by decide) (by decide) ?_
          refine OwnW.iloadN (pc' := 47) d2_46 rfl rfl ?_
          exact OwnW.retI d2_47 rfl (by decide) (by decide) (⟨by first | (simp only [f2_4_1, if_neg hc17, if_neg hc17_1, if_pos hc17_2, if_neg hc39]; done) | (simp only [f2_4_1, if_neg hc17, if_neg hc17_1, if_pos hc17_2, if_neg hc39]; rfl), rfl⟩)
      ·
        refine OwnW.ifcY (pc' := 22) d2_17 ((if0 _ _).trans (flt hc17_2).2.1) (by decide) (by decide) ?_
        refine OwnW.iinc (pc' := 25) (L' := #[.val (.ref q0), .val (.int (0 : Int32)), .val (.int (0 : Int32)), .val (.int (4 : Int32))]) (d := (1 : Int32)) d2_22 rfl rfl rfl rfl ?_
        refine OwnW.goto (pc' := 4) d2_25 (by decide) (by decide) ?_
        refine OwnW.iloadN (pc' := 5) d2_4 rfl rfl ?_
        refine OwnW.aloadN (pc' := 6) d2_5 rfl (rfl) rfl ?_
        obtain ⟨cl43, Ar43, qk43, Sz43, Mn43, Hv43, Gf43⟩ := id V_a
        refine OwnW.alen (pc' := 7) (x := (4 : Int32)) d2_6 Ar43 (len_of Sz43 Mn43) rfl ?_
        refine OwnW.icmpY (pc' := 28) d2_7 (flt (by decide)).2.1 (by decide) (by decide) ?_
        refine OwnW.iloadN (pc' := 29) d2_28 rfl rfl ?_
        refine OwnW.ifcN (pc' := 32) d2_29 ((if0 _ _).trans (flt (by decide)).1) rfl ?_
        refine OwnW.aloadN (pc' := 33) d2_32 rfl (rfl) rfl ?_
        refine OwnW.iloadN (pc' := 34) d2_33 rfl rfl ?_
        obtain ⟨cl44, Ar44, qk44, Sz44, Mn44, Hv44, Gf44⟩ := id V_a
        refine OwnW.laload (pc' := 35) (v := (.long a)) d2_34 Ar44 (inb_of Sz44 ⟨by decide, by decide⟩) (Hv44.at (inb_of Sz44 ⟨by decide, by decide⟩) rfl) rfl ?_
        refine OwnW.aloadN (pc' := 36) d2_35 rfl (rfl) rfl ?_
        refine OwnW.iloadN (pc' := 37) d2_36 rfl rfl ?_
        obtain ⟨cl45, Ar45, qk45, Sz45, Mn45, Hv45, Gf45⟩ := id V_a
        refine OwnW.laload (pc' := 38) (v := (.long a)) d2_37 Ar45 (inb_of Sz45 ⟨by decide, by decide⟩) (Hv45.at (inb_of Sz45 ⟨by decide, by decide⟩) rfl) rfl ?_
        refine OwnW.lcmp (pc' := 39) d2_38 rfl ?_
        by_cases hc39 : (lcmpW a a) = (0 : Int32)
        ·
          refine OwnW.ifcN (pc' := 42) d2_39 ((if0 _ _).trans (teq hc39).2) rfl ?_
          refine OwnW.iloadN (pc' := 43) d2_42 rfl rfl ?_
          refine OwnW.goto (pc' := 47) d2_43 (by decide) (by decide) ?_
          exact OwnW.retI d2_47 rfl (by decide) (by decide) (⟨by first | (simp only [f2_4_1, if_neg hc17, if_neg hc17_1, if_neg hc17_2, if_pos hc39]; done) | (simp only [f2_4_1, if_neg hc17, if_neg hc17_1, if_neg hc17_2, if_pos hc39]; rfl), rfl⟩)
        ·
          refine OwnW.ifcY (pc' := 46) d2_39 ((if0 _ _).trans (feq hc39).2) (by decide) (by decide) ?_
          refine OwnW.iloadN (pc' := 47) d2_46 rfl rfl ?_
          exact OwnW.retI d2_47 rfl (by decide) (by decide) (⟨by first | (simp only [f2_4_1, if_neg hc17, if_neg hc17_1, if_neg hc17_2, if_neg hc39]; done) | (simp only [f2_4_1, if_neg hc17, if_neg hc17_1, if_neg hc17_2, if_neg hc39]; rfl), rfl⟩)
def f2_4_2 (q0 : Addr) (kk : ClassId) (a : Int64) (b : Int64) (c : Int64) (d : Int64) : Int32 := (if (lcmpW b a) < (0 : Int32) then (if (lcmpW c b) < (0 : Int32) then (if (lcmpW d c) < (0 : Int32) then (if (lcmpW b d) = (0 : Int32) then (1 : Int32) else (3 : Int32)) else (if (lcmpW b c) = (0 : Int32) then (1 : Int32) else (2 : Int32))) else (if (lcmpW d b) < (0 : Int32) then (if (lcmpW b d) = (0 : Int32) then (1 : Int32) else (3 : Int32)) else (1 : Int32))) else (if (lcmpW c a) < (0 : Int32) then (if (lcmpW d c) < (0 : Int32) then (if (lcmpW b d) = (0 : Int32) then (1 : Int32) else (3 : Int32)) else (if (lcmpW b c) = (0 : Int32) then (1 : Int32) else (2 : Int32))) else (if (lcmpW d a) < (0 : Int32) then (if (lcmpW b d) = (0 : Int32) then (1 : Int32) else (3 : Int32)) else (if (lcmpW b a) = (0 : Int32) then (1 : Int32) else (0 : Int32)))))
abbrev GoB2_4_2 (l : Launch) (Z : State) (n0 : Nat) (Q : Option Value → Heap → Prop) := Go l Z ({ frames := 0, cells := 0, slots := 0, locals := 0 } : Room) (⟨"com/example/parley/parley/treesearch/ByValue", "firstLeast", "([JI)I"⟩ : MethodName) prog_59_method_3_code 4 (some .int) n0 Q
theorem ef2_4_2 (m : MethodId) (q0 : Addr) : entryFrame m #[(.ref q0), (.int (1 : Int32))] 4 = mkF m 0 #[.val (.ref q0), .val (.int (1 : Int32)), .unset, .unset] [] := by first | (simp [entryFrame, mkF, argsToLocals, Value.category]; done) | rfl
set_option maxRecDepth 65536 in
set_option maxHeartbeats 40000000 in
theorem rm2_4_2 (l : Launch) (Z : State) (a0 : Array Value) (hw : ∀ d ∈ tables_1, d.before a0 Z = true) (q0 : Addr) (kk : ClassId) (a : Int64) (b : Int64) (c : Int64) (d : Int64) (h0 : Heap) (n0 : Nat) (V_a : Arv Z h0 q0 kk .long (4 : Int32) [(.long a), (.long b), (.long c), (.long d)] (.long (0 : Int64))) :
    Con l Z ({ frames := 0, cells := 0, slots := 0, locals := 0 } : Room) (⟨"com/example/parley/parley/treesearch/ByValue", "firstLeast", "([JI)I"⟩ : MethodName) prog_59_method_3_code 4 (some .int) n0 #[(.ref q0), (.int (1 : Int32))] h0 (OwnW.Ret (some (.int (f2_4_2 q0 kk a b c d))) h0) := by
  refine OwnW.Con.of (by first | decide +kernel | exact plainFor_of_name (by simp [plainName, overriddenIn])) (fun m => ef2_4_2 m q0) ?_
  show GoB2_4_2 l Z n0 (OwnW.Ret (some (.int (f2_4_2 q0 kk a b c d))) h0) h0 0 0 0 #[.val (.ref q0), .val (.int (1 : Int32)), .unset, .unset] []
  refine OwnW.iconst (pc' := 1) (v := (0 : Int32)) d2_0 rfl rfl ?_
  refine OwnW.istoreN (pc' := 2) (L' := #[.val (.ref q0), .val (.int (1 : Int32)), .val (.int (0 : Int32)), .unset]) d2_1 rfl rfl ?_
  refine OwnW.iconst (pc' := 3) (v := (1 : Int32)) d2_2 rfl rfl ?_
  refine OwnW.istoreN (pc' := 4) (L' := #[.val (.ref q0), .val (.int (1 : Int32)), .val (.int (0 : Int32)), .val (.int (1 : Int32))]) d2_3 rfl rfl ?_
  refine OwnW.iloadN (pc' := 5) d2_4 rfl rfl ?_
  refine OwnW.aloadN (pc' := 6) d2_5 rfl (rfl) rfl ?_
  obtain ⟨cl1, Ar1, qk1, Sz1, Mn1, Hv1, Gf1⟩ := id V_a
  refine OwnW.alen (pc' := 7) (x := (4 : Int32)) d2_6 Ar1 (len_of Sz1 Mn1) rfl ?_
  refine OwnW.icmpN (pc' := 10) d2_7 (tlt (by decide)).2.1 rfl ?_
  refine OwnW.aloadN (pc' := 11) d2_10 rfl (rfl) rfl ?_
  refine OwnW.iloadN (pc' := 12) d2_11 rfl rfl ?_
  obtain ⟨cl2, Ar2, qk2, Sz2, Mn2, Hv2, Gf2⟩ := id V_a
  refine OwnW.laload (pc' := 13) (v := (.long b)) d2_12 Ar2 (inb_of Sz2 ⟨by decide, by decide⟩) (Hv2.at (inb_of Sz2 ⟨by decide, by decide⟩) rfl) rfl ?_
  refine OwnW.aloadN (pc' := 14) d2_13 rfl (rfl) rfl ?_
  refine OwnW.iloadN (pc' := 15) d2_14 rfl rfl ?_
  obtain ⟨cl3, Ar3, qk3, Sz3, Mn3, Hv3, Gf3⟩ := id V_a
  refine OwnW.laload (pc' := 16) (v := (.long a)) d2_15 Ar3 (inb_of Sz3 ⟨by decide, by decide⟩) (Hv3.at (inb_of Sz3 ⟨by decide, by decide⟩) rfl) rfl ?_
  refine OwnW.lcmp (pc' := 17) d2_16 rfl ?_
  by_cases hc17 : (lcmpW b a) < (0 : Int32)
  ·
    refine OwnW.ifcN (pc' := 20) d2_17 ((if0 _ _).trans (tlt hc17).2.1) rfl ?_
    refine OwnW.iloadN (pc' := 21) d2_20 rfl rfl ?_
    refine OwnW.istoreN (pc' := 22) (L' := #[.val (.ref q0), .val (.int (1 : Int32)), .val (.int (1 : Int32)), .val (.int (1 : Int32))]) d2_21 rfl rfl ?_
    refine OwnW.iinc (pc' := 25) (L' := #[.val (.ref q0), .val (.int (1 : Int32)), .val (.int (1 : Int32)), .val (.int (2 : Int32))]) (d := (1 : Int32)) d2_22 rfl rfl rfl rfl ?_
    refine OwnW.goto (pc' := 4) d2_25 (by decide) (by decide) ?_
    refine OwnW.iloadN (pc' := 5) d2_4 rfl rfl ?_
    refine OwnW.aloadN (pc' := 6) d2_5 rfl (rfl) rfl ?_
    obtain ⟨cl4, Ar4, qk4, Sz4, Mn4, Hv4, Gf4⟩ := id V_a
    refine OwnW.alen (pc' := 7) (x := (4 : Int32)) d2_6 Ar4 (len_of Sz4 Mn4) rfl ?_
    refine OwnW.icmpN (pc' := 10) d2_7 (tlt (by decide)).2.1 rfl ?_
    refine OwnW.aloadN (pc' := 11) d2_10 rfl (rfl) rfl ?_
    refine OwnW.iloadN (pc' := 12) d2_11 rfl rfl ?_
    obtain ⟨cl5, Ar5, qk5, Sz5, Mn5, Hv5, Gf5⟩ := id V_a
    refine OwnW.laload (pc' := 13) (v := (.long c)) d2_12 Ar5 (inb_of Sz5 ⟨by decide, by decide⟩) (Hv5.at (inb_of Sz5 ⟨by decide, by decide⟩) rfl) rfl ?_
    refine OwnW.aloadN (pc' := 14) d2_13 rfl (rfl) rfl ?_
    refine OwnW.iloadN (pc' := 15) d2_14 rfl rfl ?_
    obtain ⟨cl6, Ar6, qk6, Sz6, Mn6, Hv6, Gf6⟩ := id V_a
    refine OwnW.laload (pc' := 16) (v := (.long b)) d2_15 Ar6 (inb_of Sz6 ⟨by decide, by decide⟩) (Hv6.at (inb_of Sz6 ⟨by decide, by decide⟩) rfl) rfl ?_
    refine OwnW.lcmp (pc' := 17) d2_16 rfl ?_
    by_cases hc17_1 : (lcmpW c b) < (0 : Int32)
    ·
      refine OwnW.ifcN (pc' := 20) d2_17 ((if0 _ _).trans (tlt hc17_1).2.1) rfl ?_
      refine OwnW.iloadN (pc' := 21) d2_20 rfl rfl ?_
      refine OwnW.istoreN (pc' := 22) (L' := #[.val (.ref q0), .val (.int (1 : Int32)), .val (.int (2 : Int32)), .val (.int (2 : Int32))]) d2_21 rfl rfl ?_
      refine OwnW.iinc (pc' := 25) (L' := #[.val (.ref q0), .val (.int (1 : Int32)), .val (.int (2 : Int32)), .val (.int (3 : Int32))]) (d := (1 : Int32)) d2_22 rfl rfl rfl rfl ?_
      refine OwnW.goto (pc' := 4) d2_25 (by decide) (by decide) ?_
      refine OwnW.iloadN (pc' := 5) d2_4 rfl rfl ?_
      refine OwnW.aloadN (pc' := 6) d2_5 rfl (rfl) rfl ?_
      obtain ⟨cl7, Ar7, qk7, Sz7, Mn7, Hv7, Gf7⟩ := id V_a
      refine OwnW.alen (pc' := 7) (x := (4 : Int32)) d2_6 Ar7 (len_of Sz7 Mn7) rfl ?_
      refine OwnW.icmpN (pc' := 10) d2_7 (tlt (by decide)).2.1 rfl ?_
      refine OwnW.aloadN (pc' := 11) d2_10 rfl (rfl) rfl ?_
      refine OwnW.iloadN (pc' := 12) d2_11 rfl rfl ?_
      obtain ⟨cl8, Ar8, qk8, Sz8, Mn8, Hv8, Gf8⟩ := id V_a
      refine OwnW.laload (pc' := 13) (v := (.long d)) d2_12 Ar8 (inb_of Sz8 ⟨by decide, by decide⟩) (Hv8.at (inb_of Sz8 ⟨by decide, by decide⟩) rfl) rfl ?_
      refine OwnW.aloadN (pc' := 14) d2_13 rfl (rfl) rfl ?_
      refine OwnW.iloadN (pc' := 15) d2_14 rfl rfl ?_
      obtain ⟨cl9, Ar9, qk9, Sz9, Mn9, Hv9, Gf9⟩ := id V_a
      refine OwnW.laload (pc' := 16) (v := (.long c)) d2_15 Ar9 (inb_of Sz9 ⟨by decide, by decide⟩) (Hv9.at (inb_of Sz9 ⟨by decide, by decide⟩) rfl) rfl ?_
      refine OwnW.lcmp (pc' := 17) d2_16 rfl ?_
      by_cases hc17_2 : (lcmpW d c) < (0 : Int32)
      ·
        refine OwnW.ifcN (pc' := 20) d2_17 ((if0 _ _).trans (tlt hc17_2).2.1) rfl ?_
        refine OwnW.iloadN (pc' := 21) d2_20 rfl rfl ?_
        refine OwnW.istoreN (pc' := 22) (L' := #[.val (.ref q0), .val (.int (1 : Int32)), .val (.int (3 : Int32)), .val (.int (3 : Int32))]) d2_21 rfl rfl ?_
        refine OwnW.iinc (pc' := 25) (L' := #[.val (.ref q0), .val (.int (1 : Int32)), .val (.int (3 : Int32)), .val (.int (4 : Int32))]) (d := (1 : Int32)) d2_22 rfl rfl rfl rfl ?_
        refine OwnW.goto (pc' := 4) d2_25 (by decide) (by decide) ?_
        refine OwnW.iloadN (pc' := 5) d2_4 rfl rfl ?_
        refine OwnW.aloadN (pc' := 6) d2_5 rfl (rfl) rfl ?_
        obtain ⟨cl10, Ar10, qk10, Sz10, Mn10, Hv10, Gf10⟩ := id V_a
        refine OwnW.alen (pc' := 7) (x := (4 : Int32)) d2_6 Ar10 (len_of Sz10 Mn10) rfl ?_
        refine OwnW.icmpY (pc' := 28) d2_7 (flt (by decide)).2.1 (by decide) (by decide) ?_
        refine OwnW.iloadN (pc' := 29) d2_28 rfl rfl ?_
        refine OwnW.ifcN (pc' := 32) d2_29 ((if0 _ _).trans (flt (by decide)).1) rfl ?_
        refine OwnW.aloadN (pc' := 33) d2_32 rfl (rfl) rfl ?_
        refine OwnW.iloadN (pc' := 34) d2_33 rfl rfl ?_
        obtain ⟨cl11, Ar11, qk11, Sz11, Mn11, Hv11, Gf11⟩ := id V_a
        refine OwnW.laload (pc' := 35) (v := (.long b)) d2_34 Ar11 (inb_of Sz11 ⟨by decide, by decide⟩) (Hv11.at (inb_of Sz11 ⟨by decide, by decide⟩) rfl) rfl ?_
        refine OwnW.aloadN (pc' := 36) d2_35 rfl (rfl) rfl ?_
        refine OwnW.iloadN (pc' := 37) d2_36 rfl rfl ?_
        obtain ⟨cl12, Ar12, qk12, Sz12, Mn12, Hv12, Gf12⟩ := id V_a
        refine OwnW.laload (pc' := 38) (v := (.long d)) d2_37 Ar12 (inb_of Sz12 ⟨by decide, by decide⟩) (Hv12.at (inb_of Sz12 ⟨by decide, by decide⟩) rfl) rfl ?_
        refine OwnW.lcmp (pc' := 39) d2_38 rfl ?_
        by_cases hc39 : (lcmpW b d) = (0 : Int32)
        ·
          refine OwnW.ifcN (pc' := 42) d2_39 ((if0 _ _).trans (teq hc39).2) rfl ?_
          refine OwnW.iloadN (pc' := 43) d2_42 rfl rfl ?_
          refine OwnW.goto (pc' := 47) d2_43 (by decide) (by decide) ?_
          exact OwnW.retI d2_47 rfl (by decide) (by decide) (⟨by first | (simp only [f2_4_2, if_pos hc17, if_pos hc17_1, if_pos hc17_2, if_pos hc39]; done) | (simp only [f2_4_2, if_pos hc17, if_pos hc17_1, if_pos hc17_2, if_pos hc39]; rfl), rfl⟩)
        ·
          refine OwnW.ifcY (pc' := 46) d2_39 ((if0 _ _).trans (feq hc39).2) (by decide) (by decide) ?_
          refine OwnW.iloadN (pc' := 47) d2_46 rfl rfl ?_
          exact OwnW.retI d2_47 rfl (by decide) (by decide) (⟨by first | (simp only [f2_4_2, if_pos hc17, if_pos hc17_1, if_pos hc17_2, if_neg hc39]; done) | (simp only [f2_4_2, if_pos hc17, if_pos hc17_1, if_pos hc17_2, if_neg hc39]; rfl), rfl⟩)
      ·
        refine OwnW.ifcY (pc' := 22) d2_17 ((if0 _ _).trans (flt hc17_2).2.1) (by decide) (by decide) ?_
        refine OwnW.iinc (pc' := 25) (L' := #[.val (.ref q0), .val (.int (1 : Int32)), .val (.int (2 : Int32)), .val (.int (4 : Int32))]) (d := (1 : Int32)) d2_22 rfl rfl rfl rfl ?_
        refine OwnW.goto (pc' := 4) d2_25 (by decide) (by decide) ?_
        refine OwnW.iloadN (pc' := 5) d2_4 rfl rfl ?_
        refine OwnW.aloadN (pc' := 6) d2_5 rfl (rfl) rfl ?_
        obtain ⟨cl13, Ar13, qk13, Sz13, Mn13, Hv13, Gf13⟩ := id V_a
        refine OwnW.alen (pc' := 7) (x := (4 : Int32)) d2_6 Ar13 (len_of Sz13 Mn13) rfl ?_
        refine OwnW.icmpY (pc' := 28) d2_7 (flt (by decide)).2.1 (by decide) (by decide) ?_
        refine OwnW.iloadN (pc' := 29) d2_28 rfl rfl ?_
        refine OwnW.ifcN (pc' := 32) d2_29 ((if0 _ _).trans (flt (by decide)).1) rfl ?_
        refine OwnW.aloadN (pc' := 33) d2_32 rfl (rfl) rfl ?_
        refine OwnW.iloadN (pc' := 34) d2_33 rfl rfl ?_
        obtain ⟨cl14, Ar14, qk14, Sz14, Mn14, Hv14, Gf14⟩ := id V_a
        refine OwnW.laload (pc' := 35) (v := (.long b)) d2_34 Ar14 (inb_of Sz14 ⟨by decide, by decide⟩) (Hv14.at (inb_of Sz14 ⟨by decide, by decide⟩) rfl) rfl ?_
        refine OwnW.aloadN (pc' := 36) d2_35 rfl (rfl) rfl ?_
        refine OwnW.iloadN (pc' := 37) d2_36 rfl rfl ?_
        obtain ⟨cl15, Ar15, qk15, Sz15, Mn15, Hv15, Gf15⟩ := id V_a
        refine OwnW.laload (pc' := 38) (v := (.long c)) d2_37 Ar15 (inb_of Sz15 ⟨by decide, by decide⟩) (Hv15.at (inb_of Sz15 ⟨by decide, by decide⟩) rfl) rfl ?_
        refine OwnW.lcmp (pc' := 39) d2_38 rfl ?_
        by_cases hc39 : (lcmpW b c) = (0 : Int32)
        ·
          refine OwnW.ifcN (pc' := 42) d2_39 ((if0 _ _).trans (teq hc39).2) rfl ?_
          refine OwnW.iloadN (pc' := 43) d2_42 rfl rfl ?_
          refine OwnW.goto (pc' := 47) d2_43 (by decide) (by decide) ?_
          exact OwnW.retI d2_47 rfl (by decide) (by decide) (⟨by first | (simp only [f2_4_2, if_pos hc17, if_pos hc17_1, if_neg hc17_2, if_pos hc39]; done) | (simp only [f2_4_2, if_pos hc17, if_pos hc17_1, if_neg hc17_2, if_pos hc39]; rfl), rfl⟩)
        ·
          refine OwnW.ifcY (pc' := 46) d2_39 ((if0 _ _).trans (feq hc39).2) (by decide) (by decide) ?_
          refine OwnW.iloadN (pc' := 47) d2_46 rfl rfl ?_
          exact OwnW.retI d2_47 rfl (by decide) (by decide) (⟨by first | (simp only [f2_4_2, if_pos hc17, if_pos hc17_1, if_neg hc17_2, if_neg hc39]; done) | (simp only [f2_4_2, if_pos hc17, if_pos hc17_1, if_neg hc17_2, if_neg hc39]; rfl), rfl⟩)
    ·
      refine OwnW.ifcY (pc' := 22) d2_17 ((if0 _ _).trans (flt hc17_1).2.1) (by decide) (by decide) ?_
      refine OwnW.iinc (pc' := 25) (L' := #[.val (.ref q0), .val (.int (1 : Int32)), .val (.int (1 : Int32)), .val (.int (3 : Int32))]) (d := (1 : Int32)) d2_22 rfl rfl rfl rfl ?_
      refine OwnW.goto (pc' := 4) d2_25 (by decide) (by decide) ?_
      refine OwnW.iloadN (pc' := 5) d2_4 rfl rfl ?_
      refine OwnW.aloadN (pc' := 6) d2_5 rfl (rfl) rfl ?_
      obtain ⟨cl16, Ar16, qk16, Sz16, Mn16, Hv16, Gf16⟩ := id V_a
      refine OwnW.alen (pc' := 7) (x := (4 : Int32)) d2_6 Ar16 (len_of Sz16 Mn16) rfl ?_
      refine OwnW.icmpN (pc' := 10) d2_7 (tlt (by decide)).2.1 rfl ?_
      refine OwnW.aloadN (pc' := 11) d2_10 rfl (rfl) rfl ?_
      refine OwnW.iloadN (pc' := 12) d2_11 rfl rfl ?_
      obtain ⟨cl17, Ar17, qk17, Sz17, Mn17, Hv17, Gf17⟩ := id V_a
      refine OwnW.laload (pc' := 13) (v := (.long d)) d2_12 Ar17 (inb_of Sz17 ⟨by decide, by decide⟩) (Hv17.at (inb_of Sz17 ⟨by decide, by decide⟩) rfl) rfl ?_
      refine OwnW.aloadN (pc' := 14) d2_13 rfl (rfl) rfl ?_
      refine OwnW.iloadN (pc' := 15) d2_14 rfl rfl ?_
      obtain ⟨cl18, Ar18, qk18, Sz18, Mn18, Hv18, Gf18⟩ := id V_a
      refine OwnW.laload (pc' := 16) (v := (.long b)) d2_15 Ar18 (inb_of Sz18 ⟨by decide, by decide⟩) (Hv18.at (inb_of Sz18 ⟨by decide, by decide⟩) rfl) rfl ?_
      refine OwnW.lcmp (pc' := 17) d2_16 rfl ?_
      by_cases hc17_2 : (lcmpW d b) < (0 : Int32)
      ·
        refine OwnW.ifcN (pc' := 20) d2_17 ((if0 _ _).trans (tlt hc17_2).2.1) rfl ?_
        refine OwnW.iloadN (pc' := 21) d2_20 rfl rfl ?_
        refine OwnW.istoreN (pc' := 22) (L' := #[.val (.ref q0), .val (.int (1 : Int32)), .val (.int (3 : Int32)), .val (.int (3 : Int32))]) d2_21 rfl rfl ?_
        refine OwnW.iinc (pc' := 25) (L' := #[.val (.ref q0), .val (.int (1 : Int32)), .val (.int (3 : Int32)), .val (.int (4 : Int32))]) (d := (1 : Int32)) d2_22 rfl rfl rfl rfl ?_
        refine OwnW.goto (pc' := 4) d2_25 (by decide) (by decide) ?_
        refine OwnW.iloadN (pc' := 5) d2_4 rfl rfl ?_
        refine OwnW.aloadN (pc' := 6) d2_5 rfl (rfl) rfl ?_
        obtain ⟨cl19, Ar19, qk19, Sz19, Mn19, Hv19, Gf19⟩ := id V_a
        refine OwnW.alen (pc' := 7) (x := (4 : Int32)) d2_6 Ar19 (len_of Sz19 Mn19) rfl ?_
        refine OwnW.icmpY (pc' := 28) d2_7 (flt (by decide)).2.1 (by decide) (by decide) ?_
        refine OwnW.iloadN (pc' := 29) d2_28 rfl rfl ?_
        refine OwnW.ifcN (pc' := 32) d2_29 ((if0 _ _).trans (flt (by decide)).1) rfl ?_
        refine OwnW.aloadN (pc' := 33) d2_32 rfl (rfl) rfl ?_
        refine OwnW.iloadN (pc' := 34) d2_33 rfl rfl ?_
        obtain ⟨cl20, Ar20, qk20, Sz20, Mn20, Hv20, Gf20⟩ := id V_a
        refine OwnW.laload (pc' := 35) (v := (.long b)) d2_34 Ar20 (inb_of Sz20 ⟨by decide, by decide⟩) (Hv20.at (inb_of Sz20 ⟨by decide, by decide⟩) rfl) rfl ?_
        refine OwnW.aloadN (pc' := 36) d2_35 rfl (rfl) rfl ?_
        refine OwnW.iloadN (pc' := 37) d2_36 rfl rfl ?_
        obtain ⟨cl21, Ar21, qk21, Sz21, Mn21, Hv21, Gf21⟩ := id V_a
        refine OwnW.laload (pc' := 38) (v := (.long d)) d2_37 Ar21 (inb_of Sz21 ⟨by decide, by decide⟩) (Hv21.at (inb_of Sz21 ⟨by decide, by decide⟩) rfl) rfl ?_
        refine OwnW.lcmp (pc' := 39) d2_38 rfl ?_
        by_cases hc39 : (lcmpW b d) = (0 : Int32)
        ·
          refine OwnW.ifcN (pc' := 42) d2_39 ((if0 _ _).trans (teq hc39).2) rfl ?_
          refine OwnW.iloadN (pc' := 43) d2_42 rfl rfl ?_
          refine OwnW.goto (pc' := 47) d2_43 (by decide) (by decide) ?_
          exact OwnW.retI d2_47 rfl (by decide) (by decide) (⟨by first | (simp only [f2_4_2, if_pos hc17, if_neg hc17_1, if_pos hc17_2, if_pos hc39]; done) | (simp only [f2_4_2, if_pos hc17, if_neg hc17_1, if_pos hc17_2, if_pos hc39]; rfl), rfl⟩)
        ·
          refine OwnW.ifcY (pc' := 46) d2_39 ((if0 _ _).trans (feq hc39).2) (by decide) (by decide) ?_
          refine OwnW.iloadN (pc' := 47) d2_46 rfl rfl ?_
          exact OwnW.retI d2_47 rfl (by decide) (by decide) (⟨by first | (simp only [f2_4_2, if_pos hc17, if_neg hc17_1, if_pos hc17_2, if_neg hc39]; done) | (simp only [f2_4_2, if_pos hc17, if_neg hc17_1, if_pos hc17_2, if_neg hc39]; rfl), rfl⟩)
      ·
        refine OwnW.ifcY (pc' := 22) d2_17 ((if0 _ _).trans (flt hc17_2).2.1) (by decide) (by decide) ?_
        refine OwnW.iinc (pc' := 25) (L' := #[.val (.ref q0), .val (.int (1 : Int32)), .val (.int (1 : Int32)), .val (.int (4 : Int32))]) (d := (1 : Int32)) d2_22 rfl rfl rfl rfl ?_
        refine OwnW.goto (pc' := 4) d2_25 (by decide) (by decide) ?_
        refine OwnW.iloadN (pc' := 5) d2_4 rfl rfl ?_
        refine OwnW.aloadN (pc' := 6) d2_5 rfl (rfl) rfl ?_
        obtain ⟨cl22, Ar22, qk22, Sz22, Mn22, Hv22, Gf22⟩ := id V_a
        refine OwnW.alen (pc' := 7) (x := (4 : Int32)) d2_6 Ar22 (len_of Sz22 Mn22) rfl ?_
        refine OwnW.icmpY (pc' := 28) d2_7 (flt (by decide)).2.1 (by decide) (by decide) ?_
        refine OwnW.iloadN (pc' := 29) d2_28 rfl rfl ?_
        refine OwnW.ifcN (pc' := 32) d2_29 ((if0 _ _).trans (flt (by decide)).1) rfl ?_
        refine OwnW.aloadN (pc' := 33) d2_32 rfl (rfl) rfl ?_
        refine OwnW.iloadN (pc' := 34) d2_33 rfl rfl ?_
        obtain ⟨cl23, Ar23, qk23, Sz23, Mn23, Hv23, Gf23⟩ := id V_a
        refine OwnW.laload (pc' := 35) (v := (.long b)) d2_34 Ar23 (inb_of Sz23 ⟨by decide, by decide⟩) (Hv23.at (inb_of Sz23 ⟨by decide, by decide⟩) rfl) rfl ?_
        refine OwnW.aloadN (pc' := 36) d2_35 rfl (rfl) rfl ?_
        refine OwnW.iloadN (pc' := 37) d2_36 rfl rfl ?_
        obtain ⟨cl24, Ar24, qk24, Sz24, Mn24, Hv24, Gf24⟩ := id V_a
        refine OwnW.laload (pc' := 38) (v := (.long b)) d2_37 Ar24 (inb_of Sz24 ⟨by decide, by decide⟩) (Hv24.at (inb_of Sz24 ⟨by decide, by decide⟩) rfl) rfl ?_
        refine OwnW.lcmp (pc' := 39) d2_38 rfl ?_
        by_cases hc39 : (lcmpW b b) = (0 : Int32)
        ·
          refine OwnW.ifcN (pc' := 42) d2_39 ((if0 _ _).trans (teq hc39).2) rfl ?_
          refine OwnW.iloadN (pc' := 43) d2_42 rfl rfl ?_
          refine OwnW.goto (pc' := 47) d2_43 (by decide) (by decide) ?_
          exact OwnW.retI d2_47 rfl (by decide) (by decide) (⟨by first | (simp only [f2_4_2, if_pos hc17, if_neg hc17_1, if_neg hc17_2, if_pos hc39]; done) | (simp only [f2_4_2, if_pos hc17, if_neg hc17_1, if_neg hc17_2, if_pos hc39]; rfl), rfl⟩)
        ·
          refine OwnW.ifcY (pc' := 46) d2_39 ((if0 _ _).trans (feq hc39).2) (by decide) (by decide) ?_
          refine OwnW.iloadN (pc' := 47) d2_46 rfl rfl ?_
          exact OwnW.retI d2_47 rfl (by decide) (by decide) (⟨by first | (simp only [f2_4_2, if_pos hc17, if_neg hc17_1, if_neg hc17_2, if_neg hc39]; done) | (simp only [f2_4_2, if_pos hc17, if_neg hc17_1, if_neg hc17_2, if_neg hc39]; rfl), rfl⟩)
  ·
    refine OwnW.ifcY (pc' := 22) d2_17 ((if0 _ _).trans (flt hc17).2.1) (by decide) (by decide) ?_
    refine OwnW.iinc (pc' := 25) (L' := #[.val (.ref q0), .val (.int (1 : Int32)), .val (.int (0 : Int32)), .val (.int (2 : Int32))]) (d := (1 : Int32)) d2_22 rfl rfl rfl rfl ?_
    refine OwnW.goto (pc' := 4) d2_25 (by decide) (by decide) ?_
    refine OwnW.iloadN (pc' := 5) d2_4 rfl rfl ?_
    refine OwnW.aloadN (pc' := 6) d2_5 rfl (rfl) rfl ?_
    obtain ⟨cl25, Ar25, qk25, Sz25, Mn25, Hv25, Gf25⟩ := id V_a
    refine OwnW.alen (pc' := 7) (x := (4 : Int32)) d2_6 Ar25 (len_of Sz25 Mn25) rfl ?_
    refine OwnW.icmpN (pc' := 10) d2_7 (tlt (by decide)).2.1 rfl ?_
    refine OwnW.aloadN (pc' := 11) d2_10 rfl (rfl) rfl ?_
    refine OwnW.iloadN (pc' := 12) d2_11 rfl rfl ?_
    obtain ⟨cl26, Ar26, qk26, Sz26, Mn26, Hv26, Gf26⟩ := id V_a
    refine OwnW.laload (pc' := 13) (v := (.long c)) d2_12 Ar26 (inb_of Sz26 ⟨by decide, by decide⟩) (Hv26.at (inb_of Sz26 ⟨by decide, by decide⟩) rfl) rfl ?_
    refine OwnW.aloadN (pc' := 14) d2_13 rfl (rfl) rfl ?_
    refine OwnW.iloadN (pc' := 15) d2_14 rfl rfl ?_
    obtain ⟨cl27, Ar27, qk27, Sz27, Mn27, Hv27, Gf27⟩ := id V_a
    refine OwnW.laload (pc' := 16) (v := (.long a)) d2_15 Ar27 (inb_of Sz27 ⟨by decide, by decide⟩) (Hv27.at (inb_of Sz27 ⟨by decide, by decide⟩) rfl) rfl ?_
    refine OwnW.lcmp (pc' := 17) d2_16 rfl ?_
    by_cases hc17_1 : (lcmpW c a) < (0 : Int32)
    ·
      refine OwnW.ifcN (pc' := 20) d2_17 ((if0 _ _).trans (tlt hc17_1).2.1) rfl ?_
      refine OwnW.iloadN (pc' := 21) d2_20 rfl rfl ?_
      refine OwnW.istoreN (pc' := 22) (L' := #[.val (.ref q0), .val (.int (1 : Int32)), .val (.int (2 : Int32)), .val (.int (2 : Int32))]) d2_21 rfl rfl ?_
      refine OwnW.iinc (pc' := 25) (L' := #[.val (.ref q0), .val (.int (1 : Int32)), .val (.int (2 : Int32)), .val (.int (3 : Int32))]) (d := (1 : Int32)) d2_22 rfl rfl rfl rfl ?_
      refine OwnW.goto (pc' := 4) d2_25 (by decide) (by decide) ?_
      refine OwnW.iloadN (pc' := 5) d2_4 rfl rfl ?_
      refine OwnW.aloadN (pc' := 6) d2_5 rfl (rfl) rfl ?_
      obtain ⟨cl28, Ar28, qk28, Sz28, Mn28, Hv28, Gf28⟩ := id V_a
      refine OwnW.alen (pc' := 7) (x := (4 : Int32)) d2_6 Ar28 (len_of Sz28 Mn28) rfl ?_
      refine OwnW.icmpN (pc' := 10) d2_7 (tlt (by decide)).2.1 rfl ?_
      refine OwnW.aloadN (pc' := 11) d2_10 rfl (rfl) rfl ?_
      refine OwnW.iloadN (pc' := 12) d2_11 rfl rfl ?_
      obtain ⟨cl29, Ar29, qk29, Sz29, Mn29, Hv29, Gf29⟩ := id V_a
      refine OwnW.laload (pc' := 13) (v := (.long d)) d2_12 Ar29 (inb_of Sz29 ⟨by decide, by decide⟩) (Hv29.at (inb_of Sz29 ⟨by decide, by decide⟩) rfl) rfl ?_
      refine OwnW.aloadN (pc' := 14) d2_13 rfl (rfl) rfl ?_
      refine OwnW.iloadN (pc' := 15) d2_14 rfl rfl ?_
      obtain ⟨cl30, Ar30, qk30, Sz30, Mn30, Hv30, Gf30⟩ := id V_a
      refine OwnW.laload (pc' := 16) (v := (.long c)) d2_15 Ar30 (inb_of Sz30 ⟨by decide, by decide⟩) (Hv30.at (inb_of Sz30 ⟨by decide, by decide⟩) rfl) rfl ?_
      refine OwnW.lcmp (pc' := 17) d2_16 rfl ?_
      by_cases hc17_2 : (lcmpW d c) < (0 : Int32)
      ·
        refine OwnW.ifcN (pc' := 20) d2_17 ((if0 _ _).trans (tlt hc17_2).2.1) rfl ?_
        refine OwnW.iloadN (pc' := 21) d2_20 rfl rfl ?_
        refine OwnW.istoreN (pc' := 22) (L' := #[.val (.ref q0), .val (.int (1 : Int32)), .val (.int (3 : Int32)), .val (.int (3 : Int32))]) d2_21 rfl rfl ?_
        refine OwnW.iinc (pc' := 25) (L' := #[.val (.ref q0), .val (.int (1 : Int32)), .val (.int (3 : Int32)), .val (.int (4 : Int32))]) (d := (1 : Int32)) d2_22 rfl rfl rfl rfl ?_
        refine OwnW.goto (pc' := 4) d2_25 (by decide) (by decide) ?_
        refine OwnW.iloadN (pc' := 5) d2_4 rfl rfl ?_
        refine OwnW.aloadN (pc' := 6) d2_5 rfl (rfl) rfl ?_
        obtain ⟨cl31, Ar31, qk31, Sz31, Mn31, Hv31, Gf31⟩ := id V_a
        refine OwnW.alen (pc' := 7) (x := (4 : Int32)) d2_6 Ar31 (len_of Sz31 Mn31) rfl ?_
        refine OwnW.icmpY (pc' := 28) d2_7 (flt (by decide)).2.1 (by decide) (by decide) ?_
        refine OwnW.iloadN (pc' := 29) d2_28 rfl rfl ?_
        refine OwnW.ifcN (pc' := 32) d2_29 ((if0 _ _).trans (flt (by decide)).1) rfl ?_
        refine OwnW.aloadN (pc' := 33) d2_32 rfl (rfl) rfl ?_
        refine OwnW.iloadN (pc' := 34) d2_33 rfl rfl ?_
        obtain ⟨cl32, Ar32, qk32, Sz32, Mn32, Hv32, Gf32⟩ := id V_a
        refine OwnW.laload (pc' := 35) (v := (.long b)) d2_34 Ar32 (inb_of Sz32 ⟨by decide, by decide⟩) (Hv32.at (inb_of Sz32 ⟨by decide, by decide⟩) rfl) rfl ?_
        refine OwnW.aloadN (pc' := 36) d2_35 rfl (rfl) rfl ?_
        refine OwnW.iloadN (pc' := 37) d2_36 rfl rfl ?_
        obtain ⟨cl33, Ar33, qk33, Sz33, Mn33, Hv33, Gf33⟩ := id V_a
        refine OwnW.laload (pc' := 38) (v := (.long d)) d2_37 Ar33 (inb_of Sz33 ⟨by decide, by decide⟩) (Hv33.at (inb_of Sz33 ⟨by decide, by decide⟩) rfl) rfl ?_
        refine OwnW.lcmp (pc' := 39) d2_38 rfl ?_
        by_cases hc39 : (lcmpW b d) = (0 : Int32)
        ·
          refine OwnW.ifcN (pc' := 42) d2_39 ((if0 _ _).trans (teq hc39).2) rfl ?_
          refine OwnW.iloadN (pc' := 43) d2_42 rfl rfl ?_
          refine OwnW.goto (pc' := 47) d2_43 (by decide) (by decide) ?_
          exact OwnW.retI d2_47 rfl (by decide) (by decide) (⟨by first | (simp only [f2_4_2, if_neg hc17, if_pos hc17_1, if_pos hc17_2, if_pos hc39]; done) | (simp only [f2_4_2, if_neg hc17, if_pos hc17_1, if_pos hc17_2, if_pos hc39]; rfl), rfl⟩)
        ·
          refine OwnW.ifcY (pc' := 46) d2_39 ((if0 _ _).trans (feq hc39).2) (by decide) (by decide) ?_
          refine OwnW.iloadN (pc' := 47) d2_46 rfl rfl ?_
          exact OwnW.retI d2_47 rfl (by decide) (by decide) (⟨by first | (simp only [f2_4_2, if_neg hc17, if_pos hc17_1, if_pos hc17_2, if_neg hc39]; done) | (simp only [f2_4_2, if_neg hc17, if_pos hc17_1, if_pos hc17_2, if_neg hc39]; rfl), rfl⟩)
      ·
        refine OwnW.ifcY (pc' := 22) d2_17 ((if0 _ _).trans (flt hc17_2).2.1) (by decide) (by decide) ?_
        refine OwnW.iinc (pc' := 25) (L' := #[.val (.ref q0), .val (.int (1 : Int32)), .val (.int (2 : Int32)), .val (.int (4 : Int32))]) (d := (1 : Int32)) d2_22 rfl rfl rfl rfl ?_
        refine OwnW.goto (pc' := 4) d2_25 (by decide) (by decide) ?_
        refine OwnW.iloadN (pc' := 5) d2_4 rfl rfl ?_
        refine OwnW.aloadN (pc' := 6) d2_5 rfl (rfl) rfl ?_
        obtain ⟨cl34, Ar34, qk34, Sz34, Mn34, Hv34, Gf34⟩ := id V_a
        refine OwnW.alen (pc' := 7) (x := (4 : Int32)) d2_6 Ar34 (len_of Sz34 Mn34) rfl ?_
        refine OwnW.icmpY (pc' := 28) d2_7 (flt (by decide)).2.1 (by decide) (by decide) ?_
        refine OwnW.iloadN (pc' := 29) d2_28 rfl rfl ?_
        refine OwnW.ifcN (pc' := 32) d2_29 ((if0 _ _).trans (flt (by decide)).1) rfl ?_
        refine OwnW.aloadN (pc' := 33) d2_32 rfl (rfl) rfl ?_
        refine OwnW.iloadN (pc' := 34) d2_33 rfl rfl ?_
        obtain ⟨cl35, Ar35, qk35, Sz35, Mn35, Hv35, Gf35⟩ := id V_a
        refine OwnW.laload (pc' := 35) (v := (.long b)) d2_34 Ar35 (inb_of Sz35 ⟨by decide, by decide⟩) (Hv35.at (inb_of Sz35 ⟨by decide, by decide⟩) rfl) rfl ?_
        refine OwnW.aloadN (pc' := 36) d2_35 rfl (rfl) rfl ?_
        refine OwnW.iloadN (pc' := 37) d2_36 rfl rfl ?_
        obtain ⟨cl36, Ar36, qk36, Sz36, Mn36, Hv36, Gf36⟩ := id V_a
        refine OwnW.laload (pc' := 38) (v := (.long c)) d2_37 Ar36 (inb_of Sz36 ⟨by decide, by decide⟩) (Hv36.at (inb_of Sz36 ⟨by decide, by decide⟩) rfl) rfl ?_
        refine OwnW.lcmp (pc' := 39) d2_38 rfl ?_
        by_cases hc39 : (lcmpW b c) = (0 : Int32)
        ·
          refine OwnW.ifcN (pc' := 42) d2_39 ((if0 _ _).trans (teq hc39).2) rfl ?_
          refine OwnW.iloadN (pc' := 43) d2_42 rfl rfl ?_
          refine OwnW.goto (pc' := 47) d2_43 (by decide) (by decide) ?_
          exact OwnW.retI d2_47 rfl (by decide) (by decide) (⟨by first | (simp only [f2_4_2, if_neg hc17, if_pos hc17_1, if_neg hc17_2, if_pos hc39]; done) | (simp only [f2_4_2, if_neg hc17, if_pos hc17_1, if_neg hc17_2, if_pos hc39]; rfl), rfl⟩)
        ·
          refine OwnW.ifcY (pc' := 46) d2_39 ((if0 _ _).trans (feq hc39).2) (by decide) (by decide) ?_
          refine OwnW.iloadN (pc' := 47) d2_46 rfl rfl ?_
          exact OwnW.retI d2_47 rfl (by decide) (by decide) (⟨by first | (simp only [f2_4_2, if_neg hc17, if_pos hc17_1, if_neg hc17_2, if_neg hc39]; done) | (simp only [f2_4_2, if_neg hc17, if_pos hc17_1, if_neg hc17_2, if_neg hc39]; rfl), rfl⟩)
    ·
      refine OwnW.ifcY (pc' := 22) d2_17 ((if0 _ _).trans (flt hc17_1).2.1) (by decide) (by decide) ?_
      refine OwnW.iinc (pc' := 25) (L' := #[.val (.ref q0), .val (.int (1 : Int32)), .val (.int (0 : Int32)), .val (.int (3 : Int32))]) (d := (1 : Int32)) d2_22 rfl rfl rfl rfl ?_
      refine OwnW.goto (pc' := 4) d2_25 (by decide) (by decide) ?_
      refine OwnW.iloadN (pc' := 5) d2_4 rfl rfl ?_
      refine OwnW.aloadN (pc' := 6) d2_5 rfl (rfl) rfl ?_
      obtain ⟨cl37, Ar37, qk37, Sz37, Mn37, Hv37, Gf37⟩ := id V_a
      refine OwnW.alen (pc' := 7) (x := (4 : Int32)) d2_6 Ar37 (len_of Sz37 Mn37) rfl ?_
      refine OwnW.icmpN (pc' := 10) d2_7 (tlt (by decide)).2.1 rfl ?_
      refine OwnW.aloadN (pc' := 11) d2_10 rfl (rfl) rfl ?_
      refine OwnW.iloadN (pc' := 12) d2_11 rfl rfl ?_
      obtain ⟨cl38, Ar38, qk38, Sz38, Mn38, Hv38, Gf38⟩ := id V_a
      refine OwnW.laload (pc' := 13) (v := (.long d)) d2_12 Ar38 (inb_of Sz38 ⟨by decide, by decide⟩) (Hv38.at (inb_of Sz38 ⟨by decide, by decide⟩) rfl) rfl ?_
      refine OwnW.aloadN (pc' := 14) d2_13 rfl (rfl) rfl ?_
      refine OwnW.iloadN (pc' := 15) d2_14 rfl rfl ?_
      obtain ⟨cl39, Ar39, qk39, Sz39, Mn39, Hv39, Gf39⟩ := id V_a
      refine OwnW.laload (pc' := 16) (v := (.long a)) d2_15 Ar39 (inb_of Sz39 ⟨by decide, by decide⟩) (Hv39.at (inb_of Sz39 ⟨by decide, by decide⟩) rfl) rfl ?_
      refine OwnW.lcmp (pc' := 17) d2_16 rfl ?_
      by_cases hc17_2 : (lcmpW d a) < (0 : Int32)
      ·
        refine OwnW.ifcN (pc' := 20) d2_17 ((if0 _ _).trans (tlt hc17_2).2.1) rfl ?_
        refine OwnW.iloadN (pc' := 21) d2_20 rfl rfl ?_
        refine OwnW.istoreN (pc' := 22) (L' := #[.val (.ref q0), .val (.int (1 : Int32)), .val (.int (3 : Int32)), .val (.int (3 : Int32))]) d2_21 rfl rfl ?_
        refine OwnW.iinc (pc' := 25) (L' := #[.val (.ref q0), .val (.int (1 : Int32)), .val (.int (3 : Int32)), .val (.int (4 : Int32))]) (d := (1 : Int32)) d2_22 rfl rfl rfl rfl ?_
        refine OwnW.goto (pc' := 4) d2_25 (by decide) (by decide) ?_
        refine OwnW.iloadN (pc' := 5) d2_4 rfl rfl ?_
        refine OwnW.aloadN (pc' := 6) d2_5 rfl (rfl) rfl ?_
        obtain ⟨cl40, Ar40, qk40, Sz40, Mn40, Hv40, Gf40⟩ := id V_a
        refine OwnW.alen (pc' := 7) (x := (4 : Int32)) d2_6 Ar40 (len_of Sz40 Mn40) rfl ?_
        refine OwnW.icmpY (pc' := 28) d2_7 (flt (by decide)).2.1 (by decide) (by decide) ?_
        refine OwnW.iloadN (pc' := 29) d2_28 rfl rfl ?_
        refine OwnW.ifcN (pc' := 32) d2_29 ((if0 _ _).trans (flt (by decide)).1) rfl ?_
        refine OwnW.aloadN (pc' := 33) d2_32 rfl (rfl) rfl ?_
        refine OwnW.iloadN (pc' := 34) d2_33 rfl rfl ?_
        obtain ⟨cl41, Ar41, qk41, Sz41, Mn41, Hv41, Gf41⟩ := id V_a
        refine OwnW.laload (pc' := 35) (v := (.long b)) d2_34 Ar41 (inb_of Sz41 ⟨by decide, by decide⟩) (Hv41.at (inb_of Sz41 ⟨by decide, by decide⟩) rfl) rfl ?_
        refine OwnW.aloadN (pc' := 36) d2_35 rfl (rfl) rfl ?_
        refine OwnW.iloadN (pc' := 37) d2_36 rfl rfl ?_
        obtain ⟨cl42, Ar42, qk42, Sz42, Mn42, Hv42, Gf42⟩ := id V_a
        refine OwnW.laload (pc' := 38) (v := (.long d)) d2_37 Ar42 (inb_of Sz42 ⟨by decide, by decide⟩) (Hv42.at (inb_of Sz42 ⟨by decide, by decide⟩) rfl) rfl ?_
        refine OwnW.lcmp (pc' := 39) d2_38 rfl ?_
        by_cases hc39 : (lcmpW b d) = (0 : Int32)
        ·
          refine OwnW.ifcN (pc' := 42) d2_39 ((if0 _ _).trans (teq hc39).2) rfl ?_
          refine OwnW.iloadN (pc' := 43) d2_42 rfl rfl ?_
          refine OwnW.goto (pc' := 47) d2_43 (by decide) (by decide) ?_
          exact OwnW.retI d2_47 rfl (by decide) (by decide) (⟨by first | (simp only [f2_4_2, if_neg hc17, if_neg hc17_1, if_pos hc17_2, if_pos hc39]; done) | (simp only [f2_4_2, if_neg hc17, if_neg hc17_1, if_pos hc17_2, if_pos hc39]; rfl), rfl⟩)
        ·
          refine OwnW.ifcY (pc' := 46) d2_39 ((if0 _ _).trans (feq hc39).2) (by decide) (by decide) ?_
          refine OwnW.iloadN (pc' := 47) d2_46 rfl rfl ?_
          exact OwnW.retI d2_47 rfl (by decide) (by decide) (⟨by first | (simp only [f2_4_2, if_neg hc17, if_neg hc17_1, if_pos hc17_2, if_neg hc39]; done) | (simp only [f2_4_2, if_neg hc17, if_neg hc17_1, if_pos hc17_2, if_neg hc39]; rfl), rfl⟩)
      ·
        refine OwnW.ifcY (pc' := 22) d2_17 ((if0 _ _).trans (flt hc17_2).2.1) (by decide) (by decide) ?_
        refine OwnW.iinc (pc' := 25) (L' := #[.val (.ref q0), .val (.int (1 : Int32)), .val (.int (0 : Int32)), .val (.int (4 : Int32))]) (d := (1 : Int32)) d2_22 rfl rfl rfl rfl ?_
        refine OwnW.goto (pc' := 4) d2_25 (by decide) (by decide) ?_
        refine OwnW.iloadN (pc' := 5) d2_4 rfl rfl ?_
        refine OwnW.aloadN (pc' := 6) d2_5 rfl (rfl) rfl ?_
        obtain ⟨cl43, Ar43, qk43, Sz43, Mn43, Hv43, Gf43⟩ := id V_a
        refine OwnW.alen (pc' := 7) (x := (4 : Int32)) d2_6 Ar43 (len_of Sz43 Mn43) rfl ?_
        refine OwnW.icmpY (pc' := 28) d2_7 (flt (by decide)).2.1 (by decide) (by decide) ?_
        refine OwnW.iloadN (pc' := 29) d2_28 rfl rfl ?_
        refine OwnW.ifcN (pc' := 32) d2_29 ((if0 _ _).trans (flt (by decide)).1) rfl ?_
        refine OwnW.aloadN (pc' := 33) d2_32 rfl (rfl) rfl ?_
        refine OwnW.iloadN (pc' := 34) d2_33 rfl rfl ?_
        obtain ⟨cl44, Ar44, qk44, Sz44, Mn44, Hv44, Gf44⟩ := id V_a
        refine OwnW.laload (pc' := 35) (v := (.long b)) d2_34 Ar44 (inb_of Sz44 ⟨by decide, by decide⟩) (Hv44.at (inb_of Sz44 ⟨by decide, by decide⟩) rfl) rfl ?_
        refine OwnW.aloadN (pc' := 36) d2_35 rfl (rfl) rfl ?_
        refine OwnW.iloadN (pc' := 37) d2_36 rfl rfl ?_
        obtain ⟨cl45, Ar45, qk45, Sz45, Mn45, Hv45, Gf45⟩ := id V_a
        refine OwnW.laload (pc' := 38) (v := (.long a)) d2_37 Ar45 (inb_of Sz45 ⟨by decide, by decide⟩) (Hv45.at (inb_of Sz45 ⟨by decide, by decide⟩) rfl) rfl ?_
        refine OwnW.lcmp (pc' := 39) d2_38 rfl ?_
        by_cases hc39 : (lcmpW b a) = (0 : Int32)
        ·
          refine OwnW.ifcN (pc' := 42) d2_39 ((if0 _ _).trans (teq hc39).2) rfl ?_
          refine OwnW.iloadN (pc' := 43) d2_42 rfl rfl ?_
          refine OwnW.goto (pc' := 47) d2_43 (by decide) (by decide) ?_
          exact OwnW.retI d2_47 rfl (by decide) (by decide) (⟨by first | (simp only [f2_4_2, if_neg hc17, if_neg hc17_1, if_neg hc17_2, if_pos hc39]; done) | (simp only [f2_4_2, if_neg hc17, if_neg hc17_1, if_neg hc17_2, if_pos hc39]; rfl), rfl⟩)
        ·
          refine OwnW.ifcY (pc' := 46) d2_39 ((if0 _ _).trans (feq hc39).2) (by decide) (by decide) ?_
          refine OwnW.iloadN (pc' := 47) d2_46 rfl rfl ?_
          exact OwnW.retI d2_47 rfl (by decide) (by decide) (⟨by first | (simp only [f2_4_2, if_neg hc17, if_neg hc17_1, if_neg hc17_2, if_neg hc39]; done) | (simp only [f2_4_2, if_neg hc17, if_neg hc17_1, if_neg hc17_2, if_neg hc39]; rfl), rfl⟩)
def f2_4_3 (q0 : Addr) (kk : ClassId) (a : Int64) (b : Int64) (c : Int64) (d : Int64) : Int32 := (if (lcmpW b a) < (0 : Int32) then (if (lcmpW c b) < (0 : Int32) then (if (lcmpW d c) < (0 : Int32) then (if (lcmpW c d) = (0 : Int32) then (2 : Int32) else (3 : Int32)) else (2 : Int32)) else (if (lcmpW d b) < (0 : Int32) then (if (lcmpW c d) = (0 : Int32) then (2 : Int32) else (3 : Int32)) else (if (lcmpW c b) = (0 : Int32) then (2 : Int32) else (1 : Int32)))) else (if (lcmpW c a) < (0 : Int32) then (if (lcmpW d c) < (0 : Int32) then (if (lcmpW c d) = (0 : Int32) then (2 : Int32) else (3 : Int32)) else (2 : Int32)) else (if (lcmpW d a) < (0 : Int32) then (if (lcmpW c d) = (0 : Int32) then (2 : Int32) else (3 : Int32)) else (if (lcmpW c a) = (0 : Int32) then (2 : Int32) else (0 : Int32)))))
abbrev GoB2_4_3 (l : Launch) (Z : State) (n0 : Nat) (Q : Option Value → Heap → Prop) := Go l Z ({ frames := 0, cells := 0, slots := 0, locals := 0 } : Room) (⟨"com/example/parley/parley/treesearch/ByValue", "firstLeast", "([JI)I"⟩ : MethodName) prog_59_method_3_code 4 (some .int) n0 Q
theorem ef2_4_3 (m : MethodId) (q0 : Addr) : entryFrame m #[(.ref q0), (.int (2 : Int32))] 4 = mkF m 0 #[.val (.ref q0), .val (.int (2 : Int32)), .unset, .unset] [] := by first | (simp [entryFrame, mkF, argsToLocals, Value.category]; done) | rfl
set_option maxRecDepth 65536 in
set_option maxHeartbeats 40000000 in
theorem rm2_4_3 (l : Launch) (Z : State) (a0 : Array Value) (hw : ∀ d ∈ tables_1, d.before a0 Z = true) (q0 : Addr) (kk : ClassId) (a : Int64) (b : Int64) (c : Int64) (d : Int64) (h0 : Heap) (n0 : Nat) (V_a : Arv Z h0 q0 kk .long (4 : Int32) [(.long a), (.long b), (.long c), (.long d)] (.long (0 : Int64))) :
    Con l Z ({ frames := 0, cells := 0, slots := 0, locals := 0 } : Room) (⟨"com/example/parley/parley/treesearch/ByValue", "firstLeast", "([JI)I"⟩ : MethodName) prog_59_method_3_code 4 (some .int) n0 #[(.ref q0), (.int (2 : Int32))] h0 (OwnW.Ret (some (.int (f2_4_3 q0 kk a b c d))) h0) := by
  refine OwnW.Con.of (by first | decide +kernel | exact plainFor_of_name (by simp [plainName, overriddenIn])) (fun m => ef2_4_3 m q0) ?_
  show GoB2_4_3 l Z n0 (OwnW.Ret (some (.int (f2_4_3 q0 kk a b c d))) h0) h0 0 0 0 #[.val (.ref q0), .val (.int (2 : Int32)), .unset, .unset] []
  refine OwnW.iconst (pc' := 1) (v := (0 : Int32)) d2_0 rfl rfl ?_
  refine OwnW.istoreN (pc' := 2) (L' := #[.val (.ref q0), .val (.int (2 : Int32)), .val (.int (0 : Int32)), .unset]) d2_1 rfl rfl ?_
  refine OwnW.iconst (pc' := 3) (v := (1 : Int32)) d2_2 rfl rfl ?_
  refine OwnW.istoreN (pc' := 4) (L' := #[.val (.ref q0), .val (.int (2 : Int32)), .val (.int (0 : Int32)), .val (.int (1 : Int32))]) d2_3 rfl rfl ?_
  refine OwnW.iloadN (pc' := 5) d2_4 rfl rfl ?_
  refine OwnW.aloadN (pc' := 6) d2_5 rfl (rfl) rfl ?_
  obtain ⟨cl1, Ar1, qk1, Sz1, Mn1, Hv1, Gf1⟩ := id V_a
  refine OwnW.alen (pc' := 7) (x := (4 : Int32)) d2_6 Ar1 (len_of Sz1 Mn1) rfl ?_
  refine OwnW.icmpN (pc' := 10) d2_7 (tlt (by decide)).2.1 rfl ?_
  refine OwnW.aloadN (pc' := 11) d2_10 rfl (rfl) rfl ?_
  refine OwnW.iloadN (pc' := 12) d2_11 rfl rfl ?_
  obtain ⟨cl2, Ar2, qk2, Sz2, Mn2, Hv2, Gf2⟩ := id V_a
  refine OwnW.laload (pc' := 13) (v := (.long b)) d2_12 Ar2 (inb_of Sz2 ⟨by decide, by decide⟩) (Hv2.at (inb_of Sz2 ⟨by decide, by decide⟩) rfl) rfl ?_
  refine OwnW.aloadN (pc' := 14) d2_13 rfl (rfl) rfl ?_
  refine OwnW.iloadN (pc' := 15) d2_14 rfl rfl ?_
  obtain ⟨cl3, Ar3, qk3, Sz3, Mn3, Hv3, Gf3⟩ := id V_a
  refine OwnW.laload (pc' := 16) (v := (.long a)) d2_15 Ar3 (inb_of Sz3 ⟨by decide, by decide⟩) (Hv3.at (inb_of Sz3 ⟨by decide, by decide⟩) rfl) rfl ?_
  refine OwnW.lcmp (pc' := 17) d2_16 rfl ?_
  by_cases hc17 : (lcmpW b a) < (0 : Int32)
  ·
    refine OwnW.ifcN (pc' := 20) d2_17 ((if0 _ _).trans (tlt hc17).2.1) rfl ?_
    refine OwnW.iloadN (pc' := 21) d2_20 rfl rfl ?_
    refine OwnW.istoreN (pc' := 22) (L' := #[.val (.ref q0), .val (.int (2 : Int32)), .val (.int (1 : Int32)), .val (.int (1 : Int32))]) d2_21 rfl rfl ?_
    refine OwnW.iinc (pc' := 25) (L' := #[.val (.ref q0), .val (.int (2 : Int32)), .val (.int (1 : Int32)), .val (.int (2 : Int32))]) (d := (1 : Int32)) d2_22 rfl rfl rfl rfl ?_
    refine OwnW.goto (pc' := 4) d2_25 (by decide) (by decide) ?_
    refine OwnW.iloadN (pc' := 5) d2_4 rfl rfl ?_
    refine OwnW.aloadN (pc' := 6) d2_5 rfl (rfl) rfl ?_
    obtain ⟨cl4, Ar4, qk4, Sz4, Mn4, Hv4, Gf4⟩ := id V_a
    refine OwnW.alen (pc' := 7) (x := (4 : Int32)) d2_6 Ar4 (len_of Sz4 Mn4) rfl ?_
    refine OwnW.icmpN (pc' := 10) d2_7 (tlt (by decide)).2.1 rfl ?_
    refine OwnW.aloadN (pc' := 11) d2_10 rfl (rfl) rfl ?_
    refine OwnW.iloadN (pc' := 12) d2_11 rfl rfl ?_
    obtain ⟨cl5, Ar5, qk5, Sz5, Mn5, Hv5, Gf5⟩ := id V_a
    refine OwnW.laload (pc' := 13) (v := (.long c)) d2_12 Ar5 (inb_of Sz5 ⟨by decide, by decide⟩) (Hv5.at (inb_of Sz5 ⟨by decide, by decide⟩) rfl) rfl ?_
    refine OwnW.aloadN (pc' := 14) d2_13 rfl (rfl) rfl ?_
    refine OwnW.iloadN (pc' := 15) d2_14 rfl rfl ?_
    obtain ⟨cl6, Ar6, qk6, Sz6, Mn6, Hv6, Gf6⟩ := id V_a
    refine OwnW.laload (pc' := 16) (v := (.long b)) d2_15 Ar6 (inb_of Sz6 ⟨by decide, by decide⟩) (Hv6.at (inb_of Sz6 ⟨by decide, by decide⟩) rfl) rfl ?_
    refine OwnW.lcmp (pc' := 17) d2_16 rfl ?_
    by_cases hc17_1 : (lcmpW c b) < (0 : Int32)
    ·
      refine OwnW.ifcN (pc' := 20) d2_17 ((if0 _ _).trans (tlt hc17_1).2.1) rfl ?_
      refine OwnW.iloadN (pc' := 21) d2_20 rfl rfl ?_
      refine OwnW.istoreN (pc' := 22) (L' := #[.val (.ref q0), .val (.int (2 : Int32)), .val (.int (2 : Int32)), .val (.int (2 : Int32))]) d2_21 rfl rfl ?_
      refine OwnW.iinc (pc' := 25) (L' := #[.val (.ref q0), .val (.int (2 : Int32)), .val (.int (2 : Int32)), .val (.int (3 : Int32))]) (d := (1 : Int32)) d2_22 rfl rfl rfl rfl ?_
      refine OwnW.goto (pc' := 4) d2_25 (by decide) (by decide) ?_
      refine OwnW.iloadN (pc' := 5) d2_4 rfl rfl ?_
      refine OwnW.aloadN (pc' := 6) d2_5 rfl (rfl) rfl ?_
      obtain ⟨cl7, Ar7, qk7, Sz7, Mn7, Hv7, Gf7⟩ := id V_a
      refine OwnW.alen (pc' := 7) (x := (4 : Int32)) d2_6 Ar7 (len_of Sz7 Mn7) rfl ?_
      refine OwnW.icmpN (pc' := 10) d2_7 (tlt (by decide)).2.1 rfl ?_
      refine OwnW.aloadN (pc' := 11) d2_10 rfl (rfl) rfl ?_
      refine OwnW.iloadN (pc' := 12) d2_11 rfl rfl ?_
      obtain ⟨cl8, Ar8, qk8, Sz8, Mn8, Hv8, Gf8⟩ := id V_a
      refine OwnW.laload (pc' := 13) (v := (.long d)) d2_12 Ar8 (inb_of Sz8 ⟨by decide, by decide⟩) (Hv8.at (inb_of Sz8 ⟨by decide, by decide⟩) rfl) rfl ?_
      refine OwnW.aloadN (pc' := 14) d2_13 rfl (rfl) rfl ?_
      refine OwnW.iloadN (pc' := 15) d2_14 rfl rfl ?_
      obtain ⟨cl9, Ar9, qk9, Sz9, Mn9, Hv9, Gf9⟩ := id V_a
      refine OwnW.laload (pc' := 16) (v := (.long c)) d2_15 Ar9 (inb_of Sz9 ⟨by decide, by decide⟩) (Hv9.at (inb_of Sz9 ⟨by decide, by decide⟩) rfl) rfl ?_
      refine OwnW.lcmp (pc' := 17) d2_16 rfl ?_
      by_cases hc17_2 : (lcmpW d c) < (0 : Int32)
      ·
        refine OwnW.ifcN (pc' := 20) d2_17 ((if0 _ _).trans (tlt hc17_2).2.1) rfl ?_
        refine OwnW.iloadN (pc' := 21) d2_20 rfl rfl ?_
        refine OwnW.istoreN (pc' := 22) (L' := #[.val (.ref q0), .val (.int (2 : Int32)), .val (.int (3 : Int32)), .val (.int (3 : Int32))]) d2_21 rfl rfl ?_
        refine OwnW.iinc (pc' := 25) (L' := #[.val (.ref q0), .val (.int (2 : Int32)), .val (.int (3 : Int32)), .val (.int (4 : Int32))]) (d := (1 : Int32)) d2_22 rfl rfl rfl rfl ?_
        refine OwnW.goto (pc' := 4) d2_25 (by decide) (by decide) ?_
        refine OwnW.iloadN (pc' := 5) d2_4 rfl rfl ?_
        refine OwnW.aloadN (pc' := 6) d2_5 rfl (rfl) rfl ?_
        obtain ⟨cl10, Ar10, qk10, Sz10, Mn10, Hv10, Gf10⟩ := id V_a
        refine OwnW.alen (pc' := 7) (x := (4 : Int32)) d2_6 Ar10 (len_of Sz10 Mn10) rfl ?_
        refine OwnW.icmpY (pc' := 28) d2_7 (flt (by decide)).2.1 (by decide) (by decide) ?_
        refine OwnW.iloadN (pc' := 29) d2_28 rfl rfl ?_
        refine OwnW.ifcN (pc' := 32) d2_29 ((if0 _ _).trans (flt (by decide)).1) rfl ?_
        refine OwnW.aloadN (pc' := 33) d2_32 rfl (rfl) rfl ?_
        refine OwnW.iloadN (pc' := 34) d2_33 rfl rfl ?_
        obtain ⟨cl11, Ar11, qk11, Sz11, Mn11, Hv11, Gf11⟩ := id V_a
        refine OwnW.laload (pc' := 35) (v := (.long c)) d2_34 Ar11 (inb_of Sz11 ⟨by decide, by decide⟩) (Hv11.at (inb_of Sz11 ⟨by decide, by decide⟩) rfl) rfl ?_
        refine OwnW.aloadN (pc' := 36) d2_35 rfl (rfl) rfl ?_
        refine OwnW.iloadN (pc' := 37) d2_36 rfl rfl ?_
        obtain ⟨cl12, Ar12, qk12, Sz12, Mn12, Hv12, Gf12⟩ := id V_a
        refine OwnW.laload (pc' := 38) (v := (.long d)) d2_37 Ar12 (inb_of Sz12 ⟨by decide, by decide⟩) (Hv12.at (inb_of Sz12 ⟨by decide, by decide⟩) rfl) rfl ?_
        refine OwnW.lcmp (pc' := 39) d2_38 rfl ?_
        by_cases hc39 : (lcmpW c d) = (0 : Int32)
        ·
          refine OwnW.ifcN (pc' := 42) d2_39 ((if0 _ _).trans (teq hc39).2) rfl ?_
          refine OwnW.iloadN (pc' := 43) d2_42 rfl rfl ?_
          refine OwnW.goto (pc' := 47) d2_43 (by decide) (by decide) ?_
          exact OwnW.retI d2_47 rfl (by decide) (by decide) (⟨by first | (simp only [f2_4_3, if_pos hc17, if_pos hc17_1, if_pos hc17_2, if_pos hc39]; done) | (simp only [f2_4_3, if_pos hc17, if_pos hc17_1, if_pos hc17_2, if_pos hc39]; rfl), rfl⟩)
        ·
          refine OwnW.ifcY (pc' := 46) d2_39 ((if0 _ _).trans (feq hc39).2) (by decide) (by decide) ?_
          refine OwnW.iloadN (pc' := 47) d2_46 rfl rfl ?_
          exact OwnW.retI d2_47 rfl (by decide) (by decide) (⟨by first | (simp only [f2_4_3, if_pos hc17, if_pos hc17_1, if_pos hc17_2, if_neg hc39]; done) | (simp only [f2_4_3, if_pos hc17, if_pos hc17_1, if_pos hc17_2, if_neg hc39]; rfl), rfl⟩)
      ·
        refine OwnW.ifcY (pc' := 22) d2_17 ((if0 _ _).trans (flt hc17_2).2.1) (by decide) (by decide) ?_
        refine OwnW.iinc (pc' := 25) (L' := #[.val (.ref q0), .val (.int (2 : Int32)), .val (.int (2 : Int32)), .val (.int (4 : Int32))]) (d := (1 : Int32)) d2_22 rfl rfl rfl rfl ?_
        refine OwnW.goto (pc' := 4) d2_25 (by decide) (by decide) ?_
        refine OwnW.iloadN (pc' := 5) d2_4 rfl rfl ?_
        refine OwnW.aloadN (pc' := 6) d2_5 rfl (rfl) rfl ?_
        obtain ⟨cl13, Ar13, qk13, Sz13, Mn13, Hv13, Gf13⟩ := id V_a
        refine OwnW.alen (pc' := 7) (x := (4 : Int32)) d2_6 Ar13 (len_of Sz13 Mn13) rfl ?_
        refine OwnW.icmpY (pc' := 28) d2_7 (flt (by decide)).2.1 (by decide) (by decide) ?_
        refine OwnW.iloadN (pc' := 29) d2_28 rfl rfl ?_
        refine OwnW.ifcN (pc' := 32) d2_29 ((if0 _ _).trans (flt (by decide)).1) rfl ?_
        refine OwnW.aloadN (pc' := 33) d2_32 rfl (rfl) rfl ?_
        refine OwnW.iloadN (pc' := 34) d2_33 rfl rfl ?_
        obtain ⟨cl14, Ar14, qk14, Sz14, Mn14, Hv14, Gf14⟩ := id V_a
        refine OwnW.laload (pc' := 35) (v := (.long c)) d2_34 Ar14 (inb_of Sz14 ⟨by decide, by decide⟩) (Hv14.at (inb_of Sz14 ⟨by decide, by decide⟩) rfl) rfl ?_
        refine OwnW.aloadN (pc' := 36) d2_35 rfl (rfl) rfl ?_
        refine OwnW.iloadN (pc' := 37) d2_36 rfl rfl ?_
        obtain ⟨cl15, Ar15, qk15, Sz15, Mn15, Hv15, Gf15⟩ := id V_a
        refine OwnW.laload (pc' := 38) (v := (.long c)) d2_37 Ar15 (inb_of Sz15 ⟨by decide, by decide⟩) (Hv15.at (inb_of Sz15 ⟨by decide, by decide⟩) rfl) rfl ?_
        refine OwnW.lcmp (pc' := 39) d2_38 rfl ?_
        by_cases hc39 : (lcmpW c c) = (0 : Int32)
        ·
          refine OwnW.ifcN (pc' := 42) d2_39 ((if0 _ _).trans (teq hc39).2) rfl ?_
          refine OwnW.iloadN (pc' := 43) d2_42 rfl rfl ?_
          refine OwnW.goto (pc' := 47) d2_43 (by decide) (by decide) ?_
          exact OwnW.retI d2_47 rfl (by decide) (by decide) (⟨by first | (simp only [f2_4_3, if_pos hc17, if_pos hc17_1, if_neg hc17_2, if_pos hc39]; done) | (simp only [f2_4_3, if_pos hc17, if_pos hc17_1, if_neg hc17_2, if_pos hc39]; rfl), rfl⟩)
        ·
          refine OwnW.ifcY (pc' := 46) d2_39 ((if0 _ _).trans (feq hc39).2) (by decide) (by decide) ?_
          refine OwnW.iloadN (pc' := 47) d2_46 rfl rfl ?_
          exact OwnW.retI d2_47 rfl (by decide) (by decide) (⟨by first | (simp only [f2_4_3, if_pos hc17, if_pos hc17_1, if_neg hc17_2, if_neg hc39]; done) | (simp only [f2_4_3, if_pos hc17, if_pos hc17_1, if_neg hc17_2, if_neg hc39]; rfl), rfl⟩)
    ·
      refine OwnW.ifcY (pc' := 22) d2_17 ((if0 _ _).trans (flt hc17_1).2.1) (by decide) (by decide) ?_
      refine OwnW.iinc (pc' := 25) (L' := #[.val (.ref q0), .val (.int (2 : Int32)), .val (.int (1 : Int32)), .val (.int (3 : Int32))]) (d := (1 : Int32)) d2_22 rfl rfl rfl rfl ?_
      refine OwnW.goto (pc' := 4) d2_25 (by decide) (by decide) ?_
      refine OwnW.iloadN (pc' := 5) d2_4 rfl rfl ?_
      refine OwnW.aloadN (pc' := 6) d2_5 rfl (rfl) rfl ?_
      obtain ⟨cl16, Ar16, qk16, Sz16, Mn16, Hv16, Gf16⟩ := id V_a
      refine OwnW.alen (pc' := 7) (x := (4 : Int32)) d2_6 Ar16 (len_of Sz16 Mn16) rfl ?_
      refine OwnW.icmpN (pc' := 10) d2_7 (tlt (by decide)).2.1 rfl ?_
      refine OwnW.aloadN (pc' := 11) d2_10 rfl (rfl) rfl ?_
      refine OwnW.iloadN (pc' := 12) d2_11 rfl rfl ?_
      obtain ⟨cl17, Ar17, qk17, Sz17, Mn17, Hv17, Gf17⟩ := id V_a
      refine OwnW.laload (pc' := 13) (v := (.long d)) d2_12 Ar17 (inb_of Sz17 ⟨by decide, by decide⟩) (Hv17.at (inb_of Sz17 ⟨by decide, by decide⟩) rfl) rfl ?_
      refine OwnW.aloadN (pc' := 14) d2_13 rfl (rfl) rfl ?_
      refine OwnW.iloadN (pc' := 15) d2_14 rfl rfl ?_
      obtain ⟨cl18, Ar18, qk18, Sz18, Mn18, Hv18, Gf18⟩ := id V_a
      refine OwnW.laload (pc' := 16) (v := (.long b)) d2_15 Ar18 (inb_of Sz18 ⟨by decide, by decide⟩) (Hv18.at (inb_of Sz18 ⟨by decide, by decide⟩) rfl) rfl ?_
      refine OwnW.lcmp (pc' := 17) d2_16 rfl ?_
      by_cases hc17_2 : (lcmpW d b) < (0 : Int32)
      ·
        refine OwnW.ifcN (pc' := 20) d2_17 ((if0 _ _).trans (tlt hc17_2).2.1) rfl ?_
        refine OwnW.iloadN (pc' := 21) d2_20 rfl rfl ?_
        refine OwnW.istoreN (pc' := 22) (L' := #[.val (.ref q0), .val (.int (2 : Int32)), .val (.int (3 : Int32)), .val (.int (3 : Int32))]) d2_21 rfl rfl ?_
        refine OwnW.iinc (pc' := 25) (L' := #[.val (.ref q0), .val (.int (2 : Int32)), .val (.int (3 : Int32)), .val (.int (4 : Int32))]) (d := (1 : Int32)) d2_22 rfl rfl rfl rfl ?_
        refine OwnW.goto (pc' := 4) d2_25 (by decide) (by decide) ?_
        refine OwnW.iloadN (pc' := 5) d2_4 rfl rfl ?_
        refine OwnW.aloadN (pc' := 6) d2_5 rfl (rfl) rfl ?_
        obtain ⟨cl19, Ar19, qk19, Sz19, Mn19, Hv19, Gf19⟩ := id V_a
        refine OwnW.alen (pc' := 7) (x := (4 : Int32)) d2_6 Ar19 (len_of Sz19 Mn19) rfl ?_
        refine OwnW.icmpY (pc' := 28) d2_7 (flt (by decide)).2.1 (by decide) (by decide) ?_
        refine OwnW.iloadN (pc' := 29) d2_28 rfl rfl ?_
        refine OwnW.ifcN (pc' := 32) d2_29 ((if0 _ _).trans (flt (by decide)).1) rfl ?_
        refine OwnW.aloadN (pc' := 33) d2_32 rfl (rfl) rfl ?_
        refine OwnW.iloadN (pc' := 34) d2_33 rfl rfl ?_
        obtain ⟨cl20, Ar20, qk20, Sz20, Mn20, Hv20, Gf20⟩ := id V_a
        refine OwnW.laload (pc' := 35) (v := (.long c)) d2_34 Ar20 (inb_of Sz20 ⟨by decide, by decide⟩) (Hv20.at (inb_of Sz20 ⟨by decide, by decide⟩) rfl) rfl ?_
        refine OwnW.aloadN (pc' := 36) d2_35 rfl (rfl) rfl ?_
        refine OwnW.iloadN (pc' := 37) d2_36 rfl rfl ?_
        obtain ⟨cl21, Ar21, qk21, Sz21, Mn21, Hv21, Gf21⟩ := id V_a
        refine OwnW.laload (pc' := 38) (v := (.long d)) d2_37 Ar21 (inb_of Sz21 ⟨by decide, by decide⟩) (Hv21.at (inb_of Sz21 ⟨by decide, by decide⟩) rfl) rfl ?_
        refine OwnW.lcmp (pc' := 39) d2_38 rfl ?_
        by_cases hc39 : (lcmpW c d) = (0 : Int32)
        ·
          refine OwnW.ifcN (pc' := 42) d2_39 ((if0 _ _).trans (teq hc39).2) rfl ?_
          refine OwnW.iloadN (pc' := 43) d2_42 rfl rfl ?_
          refine OwnW.goto (pc' := 47) d2_43 (by decide) (by decide) ?_
          exact OwnW.retI d2_47 rfl (by decide) (by decide) (⟨by first | (simp only [f2_4_3, if_pos hc17, if_neg hc17_1, if_pos hc17_2, if_pos hc39]; done) | (simp only [f2_4_3, if_pos hc17, if_neg hc17_1, if_pos hc17_2, if_pos hc39]; rfl), rfl⟩)
        ·
          refine OwnW.ifcY (pc' := 46) d2_39 ((if0 _ _).trans (feq hc39).2) (by decide) (by decide) ?_
          refine OwnW.iloadN (pc' := 47) d2_46 rfl rfl ?_
          exact OwnW.retI d2_47 rfl (by decide) (by decide) (⟨by first | (simp only [f2_4_3, if_pos hc17, if_neg hc17_1, if_pos hc17_2, if_neg hc39]; done) | (simp only [f2_4_3, if_pos hc17, if_neg hc17_1, if_pos hc17_2, if_neg hc39]; rfl), rfl⟩)
      ·
        refine OwnW.ifcY (pc' := 22) d2_17 ((if0 _ _).trans (flt hc17_2).2.1) (by decide) (by decide) ?_
        refine OwnW.iinc (pc' := 25) (L' := #[.val (.ref q0), .val (.int (2 : Int32)), .val (.int (1 : Int32)), .val (.int (4 : Int32))]) (d := (1 : Int32)) d2_22 rfl rfl rfl rfl ?_
        refine OwnW.goto (pc' := 4) d2_25 (by decide) (by decide) ?_
        refine OwnW.iloadN (pc' := 5) d2_4 rfl rfl ?_
        refine OwnW.aloadN (pc' := 6) d2_5 rfl (rfl) rfl ?_
        obtain ⟨cl22, Ar22, qk22, Sz22, Mn22, Hv22, Gf22⟩ := id V_a
        refine OwnW.alen (pc' := 7) (x := (4 : Int32)) d2_6 Ar22 (len_of Sz22 Mn22) rfl ?_
        refine OwnW.icmpY (pc' := 28) d2_7 (flt (by decide)).2.1 (by decide) (by decide) ?_
        refine OwnW.iloadN (pc' := 29) d2_28 rfl rfl ?_
        refine OwnW.ifcN (pc' := 32) d2_29 ((if0 _ _).trans (flt (by decide)).1) rfl ?_
        refine OwnW.aloadN (pc' := 33) d2_32 rfl (rfl) rfl ?_
        refine OwnW.iloadN (pc' := 34) d2_33 rfl rfl ?_
        obtain ⟨cl23, Ar23, qk23, Sz23, Mn23, Hv23, Gf23⟩ := id V_a
        refine OwnW.laload (pc' := 35) (v := (.long c)) d2_34 Ar23 (inb_of Sz23 ⟨by decide, by decide⟩) (Hv23.at (inb_of Sz23 ⟨by decide, by decide⟩) rfl) rfl ?_
        refine OwnW.aloadN (pc' := 36) d2_35 rfl (rfl) rfl ?_
        refine OwnW.iloadN (pc' := 37) d2_36 rfl rfl ?_
        obtain ⟨cl24, Ar24, qk24, Sz24, Mn24, Hv24, Gf24⟩ := id V_a
        refine OwnW.laload (pc' := 38) (v := (.long b)) d2_37 Ar24 (inb_of Sz24 ⟨by decide, by decide⟩) (Hv24.at (inb_of Sz24 ⟨by decide, by decide⟩) rfl) rfl ?_
        refine OwnW.lcmp (pc' := 39) d2_38 rfl ?_
        by_cases hc39 : (lcmpW c b) = (0 : Int32)
        ·
          refine OwnW.ifcN (pc' := 42) d2_39 ((if0 _ _).trans (teq hc39).2) rfl ?_
          refine OwnW.iloadN (pc' := 43) d2_42 rfl rfl ?_
          refine OwnW.goto (pc' := 47) d2_43 (by decide) (by decide) ?_
          exact OwnW.retI d2_47 rfl (by decide) (by decide) (⟨by first | (simp only [f2_4_3, if_pos hc17, if_neg hc17_1, if_neg hc17_2, if_pos hc39]; done) | (simp only [f2_4_3, if_pos hc17, if_neg hc17_1, if_neg hc17_2, if_pos hc39]; rfl), rfl⟩)
        ·
          refine OwnW.ifcY (pc' := 46) d2_39 ((if0 _ _).trans (feq hc39).2) (by decide) (by decide) ?_
          refine OwnW.iloadN (pc' := 47) d2_46 rfl rfl ?_
          exact OwnW.retI d2_47 rfl (by decide) (by decide) (⟨by first | (simp only [f2_4_3, if_pos hc17, if_neg hc17_1, if_neg hc17_2, if_neg hc39]; done) | (simp only [f2_4_3, if_pos hc17, if_neg hc17_1, if_neg hc17_2, if_neg hc39]; rfl), rfl⟩)
  ·
    refine OwnW.ifcY (pc' := 22) d2_17 ((if0 _ _).trans (flt hc17).2.1) (by decide) (by decide) ?_
    refine OwnW.iinc (pc' := 25) (L' := #[.val (.ref q0), .val (.int (2 : Int32)), .val (.int (0 : Int32)), .val (.int (2 : Int32))]) (d := (1 : Int32)) d2_22 rfl rfl rfl rfl ?_
    refine OwnW.goto (pc' := 4) d2_25 (by decide) (by decide) ?_
    refine OwnW.iloadN (pc' := 5) d2_4 rfl rfl ?_
    refine OwnW.aloadN (pc' := 6) d2_5 rfl (rfl) rfl ?_
    obtain ⟨cl25, Ar25, qk25, Sz25, Mn25, Hv25, Gf25⟩ := id V_a
    refine OwnW.alen (pc' := 7) (x := (4 : Int32)) d2_6 Ar25 (len_of Sz25 Mn25) rfl ?_
    refine OwnW.icmpN (pc' := 10) d2_7 (tlt (by decide)).2.1 rfl ?_
    refine OwnW.aloadN (pc' := 11) d2_10 rfl (rfl) rfl ?_
    refine OwnW.iloadN (pc' := 12) d2_11 rfl rfl ?_
    obtain ⟨cl26, Ar26, qk26, Sz26, Mn26, Hv26, Gf26⟩ := id V_a
    refine OwnW.laload (pc' := 13) (v := (.long c)) d2_12 Ar26 (inb_of Sz26 ⟨by decide, by decide⟩) (Hv26.at (inb_of Sz26 ⟨by decide, by decide⟩) rfl) rfl ?_
    refine OwnW.aloadN (pc' := 14) d2_13 rfl (rfl) rfl ?_
    refine OwnW.iloadN (pc' := 15) d2_14 rfl rfl ?_
    obtain ⟨cl27, Ar27, qk27, Sz27, Mn27, Hv27, Gf27⟩ := id V_a
    refine OwnW.laload (pc' := 16) (v := (.long a)) d2_15 Ar27 (inb_of Sz27 ⟨by decide, by decide⟩) (Hv27.at (inb_of Sz27 ⟨by decide, by decide⟩) rfl) rfl ?_
    refine OwnW.lcmp (pc' := 17) d2_16 rfl ?_
    by_cases hc17_1 : (lcmpW c a) < (0 : Int32)
    ·
      refine OwnW.ifcN (pc' := 20) d2_17 ((if0 _ _).trans (tlt hc17_1).2.1) rfl ?_
      refine OwnW.iloadN (pc' := 21) d2_20 rfl rfl ?_
      refine OwnW.istoreN (pc' := 22) (L' := #[.val (.ref q0), .val (.int (2 : Int32)), .val (.int (2 : Int32)), .val (.int (2 : Int32))]) d2_21 rfl rfl ?_
      refine OwnW.iinc (pc' := 25) (L' := #[.val (.ref q0), .val (.int (2 : Int32)), .val (.int (2 : Int32)), .val (.int (3 : Int32))]) (d := (1 : Int32)) d2_22 rfl rfl rfl rfl ?_
      refine OwnW.goto (pc' := 4) d2_25 (by decide) (by decide) ?_
      refine OwnW.iloadN (pc' := 5) d2_4 rfl rfl ?_
      refine OwnW.aloadN (pc' := 6) d2_5 rfl (rfl) rfl ?_
      obtain ⟨cl28, Ar28, qk28, Sz28, Mn28, Hv28, Gf28⟩ := id V_a
      refine OwnW.alen (pc' := 7) (x := (4 : Int32)) d2_6 Ar28 (len_of Sz28 Mn28) rfl ?_
      refine OwnW.icmpN (pc' := 10) d2_7 (tlt (by decide)).2.1 rfl ?_
      refine OwnW.aloadN (pc' := 11) d2_10 rfl (rfl) rfl ?_
      refine OwnW.iloadN (pc' := 12) d2_11 rfl rfl ?_
      obtain ⟨cl29, Ar29, qk29, Sz29, Mn29, Hv29, Gf29⟩ := id V_a
      refine OwnW.laload (pc' := 13) (v := (.long d)) d2_12 Ar29 (inb_of Sz29 ⟨by decide, by decide⟩) (Hv29.at (inb_of Sz29 ⟨by decide, by decide⟩) rfl) rfl ?_
      refine OwnW.aloadN (pc' := 14) d2_13 rfl (rfl) rfl ?_
      refine OwnW.iloadN (pc' := 15) d2_14 rfl rfl ?_
      obtain ⟨cl30, Ar30, qk30, Sz30, Mn30, Hv30, Gf30⟩ := id V_a
      refine OwnW.laload (pc' := 16) (v := (.long c)) d2_15 Ar30 (inb_of Sz30 ⟨by decide, by decide⟩) (Hv30.at (inb_of Sz30 ⟨by decide, by decide⟩) rfl) rfl ?_
      refine OwnW.lcmp (pc' := 17) d2_16 rfl ?_
      by_cases hc17_2 : (lcmpW d c) < (0 : Int32)
      ·
        refine OwnW.ifcN (pc' := 20) d2_17 ((if0 _ _).trans (tlt hc17_2).2.1) rfl ?_
        refine OwnW.iloadN (pc' := 21) d2_20 rfl rfl ?_
        refine OwnW.istoreN (pc' := 22) (L' := #[.val (.ref q0), .val (.int (2 : Int32)), .val (.int (3 : Int32)), .val (.int (3 : Int32))]) d2_21 rfl rfl ?_
        refine OwnW.iinc (pc' := 25) (L' := #[.val (.ref q0), .val (.int (2 : Int32)), .val (.int (3 : Int32)), .val (.int (4 : Int32))]) (d := (1 : Int32)) d2_22 rfl rfl rfl rfl ?_
        refine OwnW.goto (pc' := 4) d2_25 (by decide) (by decide) ?_
        refine OwnW.iloadN (pc' := 5) d2_4 rfl rfl ?_
        refine OwnW.aloadN (pc' := 6) d2_5 rfl (rfl) rfl ?_
        obtain ⟨cl31, Ar31, qk31, Sz31, Mn31, Hv31, Gf31⟩ := id V_a
        refine OwnW.alen (pc' := 7) (x := (4 : Int32)) d2_6 Ar31 (len_of Sz31 Mn31) rfl ?_
        refine OwnW.icmpY (pc' := 28) d2_7 (flt (by decide)).2.1 (by decide) (by decide) ?_
        refine OwnW.iloadN (pc' := 29) d2_28 rfl rfl ?_
        refine OwnW.ifcN (pc' := 32) d2_29 ((if0 _ _).trans (flt (by decide)).1) rfl ?_
        refine OwnW.aloadN (pc' := 33) d2_32 rfl (rfl) rfl ?_
        refine OwnW.iloadN (pc' := 34) d2_33 rfl rfl ?_
        obtain ⟨cl32, Ar32, qk32, Sz32, Mn32, Hv32, Gf32⟩ := id V_a
        refine OwnW.laload (pc' := 35) (v := (.long c)) d2_34 Ar32 (inb_of Sz32 ⟨by decide, by decide⟩) (Hv32.at (inb_of Sz32 ⟨by decide, by decide⟩) rfl) rfl ?_
        refine OwnW.aloadN (pc' := 36) d2_35 rfl (rfl) rfl ?_
        refine OwnW.iloadN (pc' := 37) d2_36 rfl rfl ?_
        obtain ⟨cl33, Ar33, qk33, Sz33, Mn33, Hv33, Gf33⟩ := id V_a
        refine OwnW.laload (pc' := 38) (v := (.long d)) d2_37 Ar33 (inb_of Sz33 ⟨by decide, by decide⟩) (Hv33.at (inb_of Sz33 ⟨by decide, by decide⟩) rfl) rfl ?_
        refine OwnW.lcmp (pc' := 39) d2_38 rfl ?_
        by_cases hc39 : (lcmpW c d) = (0 : Int32)
        ·
          refine OwnW.ifcN (pc' := 42) d2_39 ((if0 _ _).trans (teq hc39).2) rfl ?_
          refine OwnW.iloadN (pc' := 43) d2_42 rfl rfl ?_
          refine OwnW.goto (pc' := 47) d2_43 (by decide) (by decide) ?_
          exact OwnW.retI d2_47 rfl (by decide) (by decide) (⟨by first | (simp only [f2_4_3, if_neg hc17, if_pos hc17_1, if_pos hc17_2, if_pos hc39]; done) | (simp only [f2_4_3, if_neg hc17, if_pos hc17_1, if_pos hc17_2, if_pos hc39]; rfl), rfl⟩)
        ·
          refine OwnW.ifcY (pc' := 46) d2_39 ((if0 _ _).trans (feq hc39).2) (by decide) (by decide) ?_
          refine OwnW.iloadN (pc' := 47) d2_46 rfl rfl ?_
          exact OwnW.retI d2_47 rfl (by decide) (by decide) (⟨by first | (simp only [f2_4_3, if_neg hc17, if_pos hc17_1, if_pos hc17_2, if_neg hc39]; done) | (simp only [f2_4_3, if_neg hc17, if_pos hc17_1, if_pos hc17_2, if_neg hc39]; rfl), rfl⟩)
      ·
        refine OwnW.ifcY (pc' := 22) d2_17 ((if0 _ _).trans (flt hc17_2).2.1) (by decide) (by decide) ?_
        refine OwnW.iinc (pc' := 25) (L' := #[.val (.ref q0), .val (.int (2 : Int32)), .val (.int (2 : Int32)), .val (.int (4 : Int32))]) (d := (1 : Int32)) d2_22 rfl rfl rfl rfl ?_
        refine OwnW.goto (pc' := 4) d2_25 (by decide) (by decide) ?_
        refine OwnW.iloadN (pc' := 5) d2_4 rfl rfl ?_
        refine OwnW.aloadN (pc' := 6) d2_5 rfl (rfl) rfl ?_
        obtain ⟨cl34, Ar34, qk34, Sz34, Mn34, Hv34, Gf34⟩ := id V_a
        refine OwnW.alen (pc' := 7) (x := (4 : Int32)) d2_6 Ar34 (len_of Sz34 Mn34) rfl ?_
        refine OwnW.icmpY (pc' := 28) d2_7 (flt (by decide)).2.1 (by decide) (by decide) ?_
        refine OwnW.iloadN (pc' := 29) d2_28 rfl rfl ?_
        refine OwnW.ifcN (pc' := 32) d2_29 ((if0 _ _).trans (flt (by decide)).1) rfl ?_
        refine OwnW.aloadN (pc' := 33) d2_32 rfl (rfl) rfl ?_
        refine OwnW.iloadN (pc' := 34) d2_33 rfl rfl ?_
        obtain ⟨cl35, Ar35, qk35, Sz35, Mn35, Hv35, Gf35⟩ := id V_a
        refine OwnW.laload (pc' := 35) (v := (.long c)) d2_34 Ar35 (inb_of Sz35 ⟨by decide, by decide⟩) (Hv35.at (inb_of Sz35 ⟨by decide, by decide⟩) rfl) rfl ?_
        refine OwnW.aloadN (pc' := 36) d2_35 rfl (rfl) rfl ?_
        refine OwnW.iloadN (pc' := 37) d2_36 rfl rfl ?_
        obtain ⟨cl36, Ar36, qk36, Sz36, Mn36, Hv36, Gf36⟩ := id V_a
        refine OwnW.laload (pc' := 38) (v := (.long c)) d2_37 Ar36 (inb_of Sz36 ⟨by decide, by decide⟩) (Hv36.at (inb_of Sz36 ⟨by decide, by decide⟩) rfl) rfl ?_
        refine OwnW.lcmp (pc' := 39) d2_38 rfl ?_
        by_cases hc39 : (lcmpW c c) = (0 : Int32)
        ·
          refine OwnW.ifcN (pc' := 42) d2_39 ((if0 _ _).trans (teq hc39).2) rfl ?_
          refine OwnW.iloadN (pc' := 43) d2_42 rfl rfl ?_
          refine OwnW.goto (pc' := 47) d2_43 (by decide) (by decide) ?_
          exact OwnW.retI d2_47 rfl (by decide) (by decide) (⟨by first | (simp only [f2_4_3, if_neg hc17, if_pos hc17_1, if_neg hc17_2, if_pos hc39]; done) | (simp only [f2_4_3, if_neg hc17, if_pos hc17_1, if_neg hc17_2, if_pos hc39]; rfl), rfl⟩)
        ·
          refine OwnW.ifcY (pc' := 46) d2_39 ((if0 _ _).trans (feq hc39).2) (by decide) (by decide) ?_
          refine OwnW.iloadN (pc' := 47) d2_46 rfl rfl ?_
          exact OwnW.retI d2_47 rfl (by decide) (by decide) (⟨by first | (simp only [f2_4_3, if_neg hc17, if_pos hc17_1, if_neg hc17_2, if_neg hc39]; done) | (simp only [f2_4_3, if_neg hc17, if_pos hc17_1, if_neg hc17_2, if_neg hc39]; rfl), rfl⟩)
    ·
      refine OwnW.ifcY (pc' := 22) d2_17 ((if0 _ _).trans (flt hc17_1).2.1) (by decide) (by decide) ?_
      refine OwnW.iinc (pc' := 25) (L' := #[.val (.ref q0), .val (.int (2 : Int32)), .val (.int (0 : Int32)), .val (.int (3 : Int32))]) (d := (1 : Int32)) d2_22 rfl rfl rfl rfl ?_
      refine OwnW.goto (pc' := 4) d2_25 (by decide) (by decide) ?_
      refine OwnW.iloadN (pc' := 5) d2_4 rfl rfl ?_
      refine OwnW.aloadN (pc' := 6) d2_5 rfl (rfl) rfl ?_
      obtain ⟨cl37, Ar37, qk37, Sz37, Mn37, Hv37, Gf37⟩ := id V_a
      refine OwnW.alen (pc' := 7) (x := (4 : Int32)) d2_6 Ar37 (len_of Sz37 Mn37) rfl ?_
      refine OwnW.icmpN (pc' := 10) d2_7 (tlt (by decide)).2.1 rfl ?_
      refine OwnW.aloadN (pc' := 11) d2_10 rfl (rfl) rfl ?_
      refine OwnW.iloadN (pc' := 12) d2_11 rfl rfl ?_
      obtain ⟨cl38, Ar38, qk38, Sz38, Mn38, Hv38, Gf38⟩ := id V_a
      refine OwnW.laload (pc' := 13) (v := (.long d)) d2_12 Ar38 (inb_of Sz38 ⟨by decide, by decide⟩) (Hv38.at (inb_of Sz38 ⟨by decide, by decide⟩) rfl) rfl ?_
      refine OwnW.aloadN (pc' := 14) d2_13 rfl (rfl) rfl ?_
      refine OwnW.iloadN (pc' := 15) d2_14 rfl rfl ?_
      obtain ⟨cl39, Ar39, qk39, Sz39, Mn39, Hv39, Gf39⟩ := id V_a
      refine OwnW.laload (pc' := 16) (v := (.long a)) d2_15 Ar39 (inb_of Sz39 ⟨by decide, by decide⟩) (Hv39.at (inb_of Sz39 ⟨by decide, by decide⟩) rfl) rfl ?_
      refine OwnW.lcmp (pc' := 17) d2_16 rfl ?_
      by_cases hc17_2 : (lcmpW d a) < (0 : Int32)
      ·
        refine OwnW.ifcN (pc' := 20) d2_17 ((if0 _ _).trans (tlt hc17_2).2.1) rfl ?_
        refine OwnW.iloadN (pc' := 21) d2_20 rfl rfl ?_
        refine OwnW.istoreN (pc' := 22) (L' := #[.val (.ref q0), .val (.int (2 : Int32)), .val (.int (3 : Int32)), .val (.int (3 : Int32))]) d2_21 rfl rfl ?_
        refine OwnW.iinc (pc' := 25) (L' := #[.val (.ref q0), .val (.int (2 : Int32)), .val (.int (3 : Int32)), .val (.int (4 : Int32))]) (d := (1 : Int32)) d2_22 rfl rfl rfl rfl ?_
        refine OwnW.goto (pc' := 4) d2_25 (by decide) (by decide) ?_
        refine OwnW.iloadN (pc' := 5) d2_4 rfl rfl ?_
        refine OwnW.aloadN (pc' := 6) d2_5 rfl (rfl) rfl ?_
        obtain ⟨cl40, Ar40, qk40, Sz40, Mn40, Hv40, Gf40⟩ := id V_a
        refine OwnW.alen (pc' := 7) (x := (4 : Int32)) d2_6 Ar40 (len_of Sz40 Mn40) rfl ?_
        refine OwnW.icmpY (pc' := 28) d2_7 (flt (by decide)).2.1 (by decide) (by decide) ?_
        refine OwnW.iloadN (pc' := 29) d2_28 rfl rfl ?_
        refine OwnW.ifcN (pc' := 32) d2_29 ((if0 _ _).trans (flt (by decide)).1) rfl ?_
        refine OwnW.aloadN (pc' := 33) d2_32 rfl (rfl) rfl ?_
        refine OwnW.iloadN (pc' := 34) d2_33 rfl rfl ?_
        obtain ⟨cl41, Ar41, qk41, Sz41, Mn41, Hv41, Gf41⟩ := id V_a
        refine OwnW.laload (pc' := 35) (v := (.long c)) d2_34 Ar41 (inb_of Sz41 ⟨by decide, by decide⟩) (Hv41.at (inb_of Sz41 ⟨by decide, by decide⟩) rfl) rfl ?_
        refine OwnW.aloadN (pc' := 36) d2_35 rfl (rfl) rfl ?_
        refine OwnW.iloadN (pc' := 37) d2_36 rfl rfl ?_
        obtain ⟨cl42, Ar42, qk42, Sz42, Mn42, Hv42, Gf42⟩ := id V_a
        refine OwnW.laload (pc' := 38) (v := (.long d)) d2_37 Ar42 (inb_of Sz42 ⟨by decide, by decide⟩) (Hv42.at (inb_of Sz42 ⟨by decide, by decide⟩) rfl) rfl ?_
        refine OwnW.lcmp (pc' := 39) d2_38 rfl ?_
        by_cases hc39 : (lcmpW c d) = (0 : Int32)
        ·
          refine OwnW.ifcN (pc' := 42) d2_39 ((if0 _ _).trans (teq hc39).2) rfl ?_
          refine OwnW.iloadN (pc' := 43) d2_42 rfl rfl ?_
          refine OwnW.goto (pc' := 47) d2_43 (by decide) (by decide) ?_
          exact OwnW.retI d2_47 rfl (by decide) (by decide) (⟨by first | (simp only [f2_4_3, if_neg hc17, if_neg hc17_1, if_pos hc17_2, if_pos hc39]; done) | (simp only [f2_4_3, if_neg hc17, if_neg hc17_1, if_pos hc17_2, if_pos hc39]; rfl), rfl⟩)
        ·
          refine OwnW.ifcY (pc' := 46) d2_39 ((if0 _ _).trans (feq hc39).2) (by decide) (by decide) ?_
          refine OwnW.iloadN (pc' := 47) d2_46 rfl rfl ?_
          exact OwnW.retI d2_47 rfl (by decide) (by decide) (⟨by first | (simp only [f2_4_3, if_neg hc17, if_neg hc17_1, if_pos hc17_2, if_neg hc39]; done) | (simp only [f2_4_3, if_neg hc17, if_neg hc17_1, if_pos hc17_2, if_neg hc39]; rfl), rfl⟩)
      ·
        refine OwnW.ifcY (pc' := 22) d2_17 ((if0 _ _).trans (flt hc17_2).2.1) (by decide) (by decide) ?_
        refine OwnW.iinc (pc' := 25) (L' := #[.val (.ref q0), .val (.int (2 : Int32)), .val (.int (0 : Int32)), .val (.int (4 : Int32))]) (d := (1 : Int32)) d2_22 rfl rfl rfl rfl ?_
        refine OwnW.goto (pc' := 4) d2_25 (by decide) (by decide) ?_
        refine OwnW.iloadN (pc' := 5) d2_4 rfl rfl ?_
        refine OwnW.aloadN (pc' := 6) d2_5 rfl (rfl) rfl ?_
        obtain ⟨cl43, Ar43, qk43, Sz43, Mn43, Hv43, Gf43⟩ := id V_a
        refine OwnW.alen (pc' := 7) (x := (4 : Int32)) d2_6 Ar43 (len_of Sz43 Mn43) rfl ?_
        refine OwnW.icmpY (pc' := 28) d2_7 (flt (by decide)).2.1 (by decide) (by decide) ?_
        refine OwnW.iloadN (pc' := 29) d2_28 rfl rfl ?_
        refine OwnW.ifcN (pc' := 32) d2_29 ((if0 _ _).trans (flt (by decide)).1) rfl ?_
        refine OwnW.aloadN (pc' := 33) d2_32 rfl (rfl) rfl ?_
        refine OwnW.iloadN (pc' := 34) d2_33 rfl rfl ?_
        obtain ⟨cl44, Ar44, qk44, Sz44, Mn44, Hv44, Gf44⟩ := id V_a
        refine OwnW.laload (pc' := 35) (v := (.long c)) d2_34 Ar44 (inb_of Sz44 ⟨by decide, by decide⟩) (Hv44.at (inb_of Sz44 ⟨by decide, by decide⟩) rfl) rfl ?_
        refine OwnW.aloadN (pc' := 36) d2_35 rfl (rfl) rfl ?_
        refine OwnW.iloadN (pc' := 37) d2_36 rfl rfl ?_
        obtain ⟨cl45, Ar45, qk45, Sz45, Mn45, Hv45, Gf45⟩ := id V_a
        refine OwnW.laload (pc' := 38) (v := (.long a)) d2_37 Ar45 (inb_of Sz45 ⟨by decide, by decide⟩) (Hv45.at (inb_of Sz45 ⟨by decide, by decide⟩) rfl) rfl ?_
        refine OwnW.lcmp (pc' := 39) d2_38 rfl ?_
        by_cases hc39 : (lcmpW c a) = (0 : Int32)
        ·
          refine OwnW.ifcN (pc' := 42) d2_39 ((if0 _ _).trans (teq hc39).2) rfl ?_
          refine OwnW.iloadN (pc' := 43) d2_42 rfl rfl ?_
          refine OwnW.goto (pc' := 47) d2_43 (by decide) (by decide) ?_
          exact OwnW.retI d2_47 rfl (by decide) (by decide) (⟨by first | (simp only [f2_4_3, if_neg hc17, if_neg hc17_1, if_neg hc17_2, if_pos hc39]; done) | (simp only [f2_4_3, if_neg hc17, if_neg hc17_1, if_neg hc17_2, if_pos hc39]; rfl), rfl⟩)
        ·
          refine OwnW.ifcY (pc' := 46) d2_39 ((if0 _ _).trans (feq hc39).2) (by decide) (by decide) ?_
          refine OwnW.iloadN (pc' := 47) d2_46 rfl rfl ?_
          exact OwnW.retI d2_47 rfl (by decide) (by decide) (⟨by first | (simp only [f2_4_3, if_neg hc17, if_neg hc17_1, if_neg hc17_2, if_neg hc39]; done) | (simp only [f2_4_3, if_neg hc17, if_neg hc17_1, if_neg hc17_2, if_neg hc39]; rfl), rfl⟩)
def f2_4_4 (q0 : Addr) (kk : ClassId) (a : Int64) (b : Int64) (c : Int64) (d : Int64) : Int32 := (if (lcmpW b a) < (0 : Int32) then (if (lcmpW c b) < (0 : Int32) then (if (lcmpW d c) < (0 : Int32) then (3 : Int32) else (if (lcmpW d c) = (0 : Int32) then (3 : Int32) else (2 : Int32))) else (if (lcmpW d b) < (0 : Int32) then (3 : Int32) else (if (lcmpW d b) = (0 : Int32) then (3 : Int32) else (1 : Int32)))) else (if (lcmpW c a) < (0 : Int32) then (if (lcmpW d c) < (0 : Int32) then (3 : Int32) else (if (lcmpW d c) = (0 : Int32) then (3 : Int32) else (2 : Int32))) else (if (lcmpW d a) < (0 : Int32) then (3 : Int32) else (if (lcmpW d a) = (0 : Int32) then (3 : Int32) else (0 : Int32)))))
abbrev GoB2_4_4 (l : Launch) (Z : State) (n0 : Nat) (Q : Option Value → Heap → Prop) := Go l Z ({ frames := 0, cells := 0, slots := 0, locals := 0 } : Room) (⟨"com/example/parley/parley/treesearch/ByValue", "firstLeast", "([JI)I"⟩ : MethodName) prog_59_method_3_code 4 (some .int) n0 Q
theorem ef2_4_4 (m : MethodId) (q0 : Addr) : entryFrame m #[(.ref q0), (.int (3 : Int32))] 4 = mkF m 0 #[.val (.ref q0), .val (.int (3 : Int32)), .unset, .unset] [] := by first | (simp [entryFrame, mkF, argsToLocals, Value.category]; done) | rfl
set_option maxRecDepth 65536 in
set_option maxHeartbeats 40000000 in
theorem rm2_4_4 (l : Launch) (Z : State) (a0 : Array Value) (hw : ∀ d ∈ tables_1, d.before a0 Z = true) (q0 : Addr) (kk : ClassId) (a : Int64) (b : Int64) (c : Int64) (d : Int64) (h0 : Heap) (n0 : Nat) (V_a : Arv Z h0 q0 kk .long (4 : Int32) [(.long a), (.long b), (.long c), (.long d)] (.long (0 : Int64))) :
    Con l Z ({ frames := 0, cells := 0, slots := 0, locals := 0 } : Room) (⟨"com/example/parley/parley/treesearch/ByValue", "firstLeast", "([JI)I"⟩ : MethodName) prog_59_method_3_code 4 (some .int) n0 #[(.ref q0), (.int (3 : Int32))] h0 (OwnW.Ret (some (.int (f2_4_4 q0 kk a b c d))) h0) := by
  refine OwnW.Con.of (by first | decide +kernel | exact plainFor_of_name (by simp [plainName, overriddenIn])) (fun m => ef2_4_4 m q0) ?_
  show GoB2_4_4 l Z n0 (OwnW.Ret (some (.int (f2_4_4 q0 kk a b c d))) h0) h0 0 0 0 #[.val (.ref q0), .val (.int (3 : Int32)), .unset, .unset] []
  refine OwnW.iconst (pc' := 1) (v := (0 : Int32)) d2_0 rfl rfl ?_
  refine OwnW.istoreN (pc' := 2) (L' := #[.val (.ref q0), .val (.int (3 : Int32)), .val (.int (0 : Int32)), .unset]) d2_1 rfl rfl ?_
  refine OwnW.iconst (pc' := 3) (v := (1 : Int32)) d2_2 rfl rfl ?_
  refine OwnW.istoreN (pc' := 4) (L' := #[.val (.ref q0), .val (.int (3 : Int32)), .val (.int (0 : Int32)), .val (.int (1 : Int32))]) d2_3 rfl rfl ?_
  refine OwnW.iloadN (pc' := 5) d2_4 rfl rfl ?_
  refine OwnW.aloadN (pc' := 6) d2_5 rfl (rfl) rfl ?_
  obtain ⟨cl1, Ar1, qk1, Sz1, Mn1, Hv1, Gf1⟩ := id V_a
  refine OwnW.alen (pc' := 7) (x := (4 : Int32)) d2_6 Ar1 (len_of Sz1 Mn1) rfl ?_
  refine OwnW.icmpN (pc' := 10) d2_7 (tlt (by decide)).2.1 rfl ?_
  refine OwnW.aloadN (pc' := 11) d2_10 rfl (rfl) rfl ?_
  refine OwnW.iloadN (pc' := 12) d2_11 rfl rfl ?_
  obtain ⟨cl2, Ar2, qk2, Sz2, Mn2, Hv2, Gf2⟩ := id V_a
  refine OwnW.laload (pc' := 13) (v := (.long b)) d2_12 Ar2 (inb_of Sz2 ⟨by decide, by decide⟩) (Hv2.at (inb_of Sz2 ⟨by decide, by decide⟩) rfl) rfl ?_
  refine OwnW.aloadN (pc' := 14) d2_13 rfl (rfl) rfl ?_
  refine OwnW.iloadN (pc' := 15) d2_14 rfl rfl ?_
  obtain ⟨cl3, Ar3, qk3, Sz3, Mn3, Hv3, Gf3⟩ := id V_a
  refine OwnW.laload (pc' := 16) (v := (.long a)) d2_15 Ar3 (inb_of Sz3 ⟨by decide, by decide⟩) (Hv3.at (inb_of Sz3 ⟨by decide, by decide⟩) rfl) rfl ?_
  refine OwnW.lcmp (pc' := 17) d2_16 rfl ?_
  by_cases hc17 : (lcmpW b a) < (0 : Int32)
  ·
    refine OwnW.ifcN (pc' := 20) d2_17 ((if0 _ _).trans (tlt hc17).2.1) rfl ?_
    refine OwnW.iloadN (pc' := 21) d2_20 rfl rfl ?_
    refine OwnW.istoreN (pc' := 22) (L' := #[.val (.ref q0), .val (.int (3 : Int32)), .val (.int (1 : Int32)), .val (.int (1 : Int32))]) d2_21 rfl rfl ?_
    refine OwnW.iinc (pc' := 25) (L' := #[.val (.ref q0), .val (.int (3 : Int32)), .val (.int (1 : Int32)), .val (.int (2 : Int32))]) (d := (1 : Int32)) d2_22 rfl rfl rfl rfl ?_
    refine OwnW.goto (pc' := 4) d2_25 (by decide) (by decide) ?_
    refine OwnW.iloadN (pc' := 5) d2_4 rfl rfl ?_
    refine OwnW.aloadN (pc' := 6) d2_5 rfl (rfl) rfl ?_
    obtain ⟨cl4, Ar4, qk4, Sz4, Mn4, Hv4, Gf4⟩ := id V_a
    refine OwnW.alen (pc' := 7) (x := (4 : Int32)) d2_6 Ar4 (len_of Sz4 Mn4) rfl ?_
    refine OwnW.icmpN (pc' := 10) d2_7 (tlt (by decide)).2.1 rfl ?_
    refine OwnW.aloadN (pc' := 11) d2_10 rfl (rfl) rfl ?_
    refine OwnW.iloadN (pc' := 12) d2_11 rfl rfl ?_
    obtain ⟨cl5, Ar5, qk5, Sz5, Mn5, Hv5, Gf5⟩ := id V_a
    refine OwnW.laload (pc' := 13) (v := (.long c)) d2_12 Ar5 (inb_of Sz5 ⟨by decide, by decide⟩) (Hv5.at (inb_of Sz5 ⟨by decide, by decide⟩) rfl) rfl ?_
    refine OwnW.aloadN (pc' := 14) d2_13 rfl (rfl) rfl ?_
    refine OwnW.iloadN (pc' := 15) d2_14 rfl rfl ?_
    obtain ⟨cl6, Ar6, qk6, Sz6, Mn6, Hv6, Gf6⟩ := id V_a
    refine OwnW.laload (pc' := 16) (v := (.long b)) d2_15 Ar6 (inb_of Sz6 ⟨by decide, by decide⟩) (Hv6.at (inb_of Sz6 ⟨by decide, by decide⟩) rfl) rfl ?_
    refine OwnW.lcmp (pc' := 17) d2_16 rfl ?_
    by_cases hc17_1 : (lcmpW c b) < (0 : Int32)
    ·
      refine OwnW.ifcN (pc' := 20) d2_17 ((if0 _ _).trans (tlt hc17_1).2.1) rfl ?_
      refine OwnW.iloadN (pc' := 21) d2_20 rfl rfl ?_
      refine OwnW.istoreN (pc' := 22) (L' := #[.val (.ref q0), .val (.int (3 : Int32)), .val (.int (2 : Int32)), .val (.int (2 : Int32))]) d2_21 rfl rfl ?_
      refine OwnW.iinc (pc' := 25) (L' := #[.val (.ref q0), .val (.int (3 : Int32)), .val (.int (2 : Int32)), .val (.int (3 : Int32))]) (d := (1 : Int32)) d2_22 rfl rfl rfl rfl ?_
      refine OwnW.goto (pc' := 4) d2_25 (by decide) (by decide) ?_
      refine OwnW.iloadN (pc' := 5) d2_4 rfl rfl ?_
      refine OwnW.aloadN (pc' := 6) d2_5 rfl (rfl) rfl ?_
      obtain ⟨cl7, Ar7, qk7, Sz7, Mn7, Hv7, Gf7⟩ := id V_a
      refine OwnW.alen (pc' := 7) (x := (4 : Int32)) d2_6 Ar7 (len_of Sz7 Mn7) rfl ?_
      refine OwnW.icmpN (pc' := 10) d2_7 (tlt (by decide)).2.1 rfl ?_
      refine OwnW.aloadN (pc' := 11) d2_10 rfl (rfl) rfl ?_
      refine OwnW.iloadN (pc' := 12) d2_11 rfl rfl ?_
      obtain ⟨cl8, Ar8, qk8, Sz8, Mn8, Hv8, Gf8⟩ := id V_a
      refine OwnW.laload (pc' := 13) (v := (.long d)) d2_12 Ar8 (inb_of Sz8 ⟨by decide, by decide⟩) (Hv8.at (inb_of Sz8 ⟨by decide, by decide⟩) rfl) rfl ?_
      refine OwnW.aloadN (pc' := 14) d2_13 rfl (rfl) rfl ?_
      refine OwnW.iloadN (pc' := 15) d2_14 rfl rfl ?_
      obtain ⟨cl9, Ar9, qk9, Sz9, Mn9, Hv9, Gf9⟩ := id V_a
      refine OwnW.laload (pc' := 16) (v := (.long c)) d2_15 Ar9 (inb_of Sz9 ⟨by decide, by decide⟩) (Hv9.at (inb_of Sz9 ⟨by decide, by decide⟩) rfl) rfl ?_
      refine OwnW.lcmp (pc' := 17) d2_16 rfl ?_
      by_cases hc17_2 : (lcmpW d c) < (0 : Int32)
      ·
        refine OwnW.ifcN (pc' := 20) d2_17 ((if0 _ _).trans (tlt hc17_2).2.1) rfl ?_
        refine OwnW.iloadN (pc' := 21) d2_20 rfl rfl ?_
        refine OwnW.istoreN (pc' := 22) (L' := #[.val (.ref q0), .val (.int (3 : Int32)), .val (.int (3 : Int32)), .val (.int (3 : Int32))]) d2_21 rfl rfl ?_
        refine OwnW.iinc (pc' := 25) (L' := #[.val (.ref q0), .val (.int (3 : Int32)), .val (.int (3 : Int32)), .val (.int (4 : Int32))]) (d := (1 : Int32)) d2_22 rfl rfl rfl rfl ?_
        refine OwnW.goto (pc' := 4) d2_25 (by decide) (by decide) ?_
        refine OwnW.iloadN (pc' := 5) d2_4 rfl rfl ?_
        refine OwnW.aloadN (pc' := 6) d2_5 rfl (rfl) rfl ?_
        obtain ⟨cl10, Ar10, qk10, Sz10, Mn10, Hv10, Gf10⟩ := id V_a
        refine OwnW.alen (pc' := 7) (x := (4 : Int32)) d2_6 Ar10 (len_of Sz10 Mn10) rfl ?_
        refine OwnW.icmpY (pc' := 28) d2_7 (flt (by decide)).2.1 (by decide) (by decide) ?_
        refine OwnW.iloadN (pc' := 29) d2_28 rfl rfl ?_
        refine OwnW.ifcN (pc' := 32) d2_29 ((if0 _ _).trans (flt (by decide)).1) rfl ?_
        refine OwnW.aloadN (pc' := 33) d2_32 rfl (rfl) rfl ?_
        refine OwnW.iloadN (pc' := 34) d2_33 rfl rfl ?_
        obtain ⟨cl11, Ar11, qk11, Sz11, Mn11, Hv11, Gf11⟩ := id V_a
        refine OwnW.laload (pc' := 35) (v := (.long d)) d2_34 Ar11 (inb_of Sz11 ⟨by decide, by decide⟩) (Hv11.at (inb_of Sz11 ⟨by decide, by decide⟩) rfl) rfl ?_
        refine OwnW.aloadN (pc' := 36) d2_35 rfl (rfl) rfl ?_
        refine OwnW.iloadN (pc' := 37) d2_36 rfl rfl ?_
        obtain ⟨cl12, Ar12, qk12, Sz12, Mn12, Hv12, Gf12⟩ := id V_a
        refine OwnW.laload (pc' := 38) (v := (.long d)) d2_37 Ar12 (inb_of Sz12 ⟨by decide, by decide⟩) (Hv12.at (inb_of Sz12 ⟨by decide, by decide⟩) rfl) rfl ?_
        refine OwnW.lcmp (pc' := 39) d2_38 rfl ?_
        by_cases hc39 : (lcmpW d d) = (0 : Int32)
        ·
          refine OwnW.ifcN (pc' := 42) d2_39 ((if0 _ _).trans (teq hc39).2) rfl ?_
          refine OwnW.iloadN (pc' := 43) d2_42 rfl rfl ?_
          refine OwnW.goto (pc' := 47) d2_43 (by decide) (by decide) ?_
          exact OwnW.retI d2_47 rfl (by decide) (by decide) (⟨by first | (simp only [f2_4_4, if_pos hc17, if_pos hc17_1, if_pos hc17_2, if_pos hc39]; done) | (simp only [f2_4_4, if_pos hc17, if_pos hc17_1, if_pos hc17_2, if_pos hc39]; rfl), rfl⟩)
        ·
          refine OwnW.ifcY (pc' := 46) d2_39 ((if0 _ _).trans (feq hc39).2) (by decide) (by decide) ?_
          refine OwnW.iloadN (pc' := 47) d2_46 rfl rfl ?_
          exact OwnW.retI d2_47 rfl (by decide) (by decide) (⟨by first | (simp only [f2_4_4, if_pos hc17, if_pos hc17_1, if_pos hc17_2, if_neg hc39]; done) | (simp only [f2_4_4, if_pos hc17, if_pos hc17_1, if_pos hc17_2, if_neg hc39]; rfl), rfl⟩)
      ·
        refine OwnW.ifcY (pc' := 22) d2_17 ((if0 _ _).trans (flt hc17_2).2.1) (by decide) (by decide) ?_
        refine OwnW.iinc (pc' := 25) (L' := #[.val (.ref q0), .val (.int (3 : Int32)), .val (.int (2 : Int32)), .val (.int (4 : Int32))]) (d := (1 : Int32)) d2_22 rfl rfl rfl rfl ?_
        refine OwnW.goto (pc' := 4) d2_25 (by decide) (by decide) ?_
        refine OwnW.iloadN (pc' := 5) d2_4 rfl rfl ?_
        refine OwnW.aloadN (pc' := 6) d2_5 rfl (rfl) rfl ?_
        obtain ⟨cl13, Ar13, qk13, Sz13, Mn13, Hv13, Gf13⟩ := id V_a
        refine OwnW.alen (pc' := 7) (x := (4 : Int32)) d2_6 Ar13 (len_of Sz13 Mn13) rfl ?_
        refine OwnW.icmpY (pc' := 28) d2_7 (flt (by decide)).2.1 (by decide) (by decide) ?_
        refine OwnW.iloadN (pc' := 29) d2_28 rfl rfl ?_
        refine OwnW.ifcN (pc' := 32) d2_29 ((if0 _ _).trans (flt (by decide)).1) rfl ?_
        refine OwnW.aloadN (pc' := 33) d2_32 rfl (rfl) rfl ?_
        refine OwnW.iloadN (pc' := 34) d2_33 rfl rfl ?_
        obtain ⟨cl14, Ar14, qk14, Sz14, Mn14, Hv14, Gf14⟩ := id V_a
        refine OwnW.laload (pc' := 35) (v := (.long d)) d2_34 Ar14 (inb_of Sz14 ⟨by decide, by decide⟩) (Hv14.at (inb_of Sz14 ⟨by decide, by decide⟩) rfl) rfl ?_
        refine OwnW.aloadN (pc' := 36) d2_35 rfl (rfl) rfl ?_
        refine OwnW.iloadN (pc' := 37) d2_36 rfl rfl ?_
        obtain ⟨cl15, Ar15, qk15, Sz15, Mn15, Hv15, Gf15⟩ := id V_a
        refine OwnW.laload (pc' := 38) (v := (.long c)) d2_37 Ar15 (inb_of Sz15 ⟨by decide, by decide⟩) (Hv15.at (inb_of Sz15 ⟨by decide, by decide⟩) rfl) rfl ?_
        refine OwnW.lcmp (pc' := 39) d2_38 rfl ?_
        by_cases hc39 : (lcmpW d c) = (0 : Int32)
        ·
          refine OwnW.ifcN (pc' := 42) d2_39 ((if0 _ _).trans (teq hc39).2) rfl ?_
          refine OwnW.iloadN (pc' := 43) d2_42 rfl rfl ?_
          refine OwnW.goto (pc' := 47) d2_43 (by decide) (by decide) ?_
          exact OwnW.retI d2_47 rfl (by decide) (by decide) (⟨by first | (simp only [f2_4_4, if_pos hc17, if_pos hc17_1, if_neg hc17_2, if_pos hc39]; done) | (simp only [f2_4_4, if_pos hc17, if_pos hc17_1, if_neg hc17_2, if_pos hc39]; rfl), rfl⟩)
        ·
          refine OwnW.ifcY (pc' := 46) d2_39 ((if0 _ _).trans (feq hc39).2) (by decide) (by decide) ?_
          refine OwnW.iloadN (pc' := 47) d2_46 rfl rfl ?_
          exact OwnW.retI d2_47 rfl (by decide) (by decide) (⟨by first | (simp only [f2_4_4, if_pos hc17, if_pos hc17_1, if_neg hc17_2, if_neg hc39]; done) | (simp only [f2_4_4, if_pos hc17, if_pos hc17_1, if_neg hc17_2, if_neg hc39]; rfl), rfl⟩)
    ·
      refine OwnW.ifcY (pc' := 22) d2_17 ((if0 _ _).trans (flt hc17_1).2.1) (by decide) (by decide) ?_
      refine OwnW.iinc (pc' := 25) (L' := #[.val (.ref q0), .val (.int (3 : Int32)), .val (.int (1 : Int32)), .val (.int (3 : Int32))]) (d := (1 : Int32)) d2_22 rfl rfl rfl rfl ?_
      refine OwnW.goto (pc' := 4) d2_25 (by decide) (by decide) ?_
      refine OwnW.iloadN (pc' := 5) d2_4 rfl rfl ?_
      refine OwnW.aloadN (pc' := 6) d2_5 rfl (rfl) rfl ?_
      obtain ⟨cl16, Ar16, qk16, Sz16, Mn16, Hv16, Gf16⟩ := id V_a
      refine OwnW.alen (pc' := 7) (x := (4 : Int32)) d2_6 Ar16 (len_of Sz16 Mn16) rfl ?_
      refine OwnW.icmpN (pc' := 10) d2_7 (tlt (by decide)).2.1 rfl ?_
      refine OwnW.aloadN (pc' := 11) d2_10 rfl (rfl) rfl ?_
      refine OwnW.iloadN (pc' := 12) d2_11 rfl rfl ?_
      obtain ⟨cl17, Ar17, qk17, Sz17, Mn17, Hv17, Gf17⟩ := id V_a
      refine OwnW.laload (pc' := 13) (v := (.long d)) d2_12 Ar17 (inb_of Sz17 ⟨by decide, by decide⟩) (Hv17.at (inb_of Sz17 ⟨by decide, by decide⟩) rfl) rfl ?_
      refine OwnW.aloadN (pc' := 14) d2_13 rfl (rfl) rfl ?_
      refine OwnW.iloadN (pc' := 15) d2_14 rfl rfl ?_
      obtain ⟨cl18, Ar18, qk18, Sz18, Mn18, Hv18, Gf18⟩ := id V_a
      refine OwnW.laload (pc' := 16) (v := (.long b)) d2_15 Ar18 (inb_of Sz18 ⟨by decide, by decide⟩) (Hv18.at (inb_of Sz18 ⟨by decide, by decide⟩) rfl) rfl ?_
      refine OwnW.lcmp (pc' := 17) d2_16 rfl ?_
      by_cases hc17_2 : (lcmpW d b) < (0 : Int32)
      ·
        refine OwnW.ifcN (pc' := 20) d2_17 ((if0 _ _).trans (tlt hc17_2).2.1) rfl ?_
        refine OwnW.iloadN (pc' := 21) d2_20 rfl rfl ?_
        refine OwnW.istoreN (pc' := 22) (L' := #[.val (.ref q0), .val (.int (3 : Int32)), .val (.int (3 : Int32)), .val (.int (3 : Int32))]) d2_21 rfl rfl ?_
        refine OwnW.iinc (pc' := 25) (L' := #[.val (.ref q0), .val (.int (3 : Int32)), .val (.int (3 : Int32)), .val (.int (4 : Int32))]) (d := (1 : Int32)) d2_22 rfl rfl rfl rfl ?_
        refine OwnW.goto (pc' := 4) d2_25 (by decide) (by decide) ?_
        refine OwnW.iloadN (pc' := 5) d2_4 rfl rfl ?_
        refine OwnW.aloadN (pc' := 6) d2_5 rfl (rfl) rfl ?_
        obtain ⟨cl19, Ar19, qk19, Sz19, Mn19, Hv19, Gf19⟩ := id V_a
        refine OwnW.alen (pc' := 7) (x := (4 : Int32)) d2_6 Ar19 (len_of Sz19 Mn19) rfl ?_
        refine OwnW.icmpY (pc' := 28) d2_7 (flt (by decide)).2.1 (by decide) (by decide) ?_
        refine OwnW.iloadN (pc' := 29) d2_28 rfl rfl ?_
        refine OwnW.ifcN (pc' := 32) d2_29 ((if0 _ _).trans (flt (by decide)).1) rfl ?_
        refine OwnW.aloadN (pc' := 33) d2_32 rfl (rfl) rfl ?_
        refine OwnW.iloadN (pc' := 34) d2_33 rfl rfl ?_
        obtain ⟨cl20, Ar20, qk20, Sz20, Mn20, Hv20, Gf20⟩ := id V_a
        refine OwnW.laload (pc' := 35) (v := (.long d)) d2_34 Ar20 (inb_of Sz20 ⟨by decide, by decide⟩) (Hv20.at (inb_of Sz20 ⟨by decide, by decide⟩) rfl) rfl ?_
        refine OwnW.aloadN (pc' := 36) d2_35 rfl (rfl) rfl ?_
        refine OwnW.iloadN (pc' := 37) d2_36 rfl rfl ?_
        obtain ⟨cl21, Ar21, qk21, Sz21, Mn21, Hv21, Gf21⟩ := id V_a
        refine OwnW.laload (pc' := 38) (v := (.long d)) d2_37 Ar21 (inb_of Sz21 ⟨by decide, by decide⟩) (Hv21.at (inb_of Sz21 ⟨by decide, by decide⟩) rfl) rfl ?_
        refine OwnW.lcmp (pc' := 39) d2_38 rfl ?_
        by_cases hc39 : (lcmpW d d) = (0 : Int32)
        ·
          refine OwnW.ifcN (pc' := 42) d2_39 ((if0 _ _).trans (teq hc39).2) rfl ?_
          refine OwnW.iloadN (pc' := 43) d2_42 rfl rfl ?_
          refine OwnW.goto (pc' := 47) d2_43 (by decide) (by decide) ?_
          exact OwnW.retI d2_47 rfl (by decide) (by decide) (⟨by first | (simp only [f2_4_4, if_pos hc17, if_neg hc17_1, if_pos hc17_2, if_pos hc39]; done) | (simp only [f2_4_4, if_pos hc17, if_neg hc17_1, if_pos hc17_2, if_pos hc39]; rfl), rfl⟩)
        ·
          refine OwnW.ifcY (pc' := 46) d2_39 ((if0 _ _).trans (feq hc39).2) (by decide) (by decide) ?_
          refine OwnW.iloadN (pc' := 47) d2_46 rfl rfl ?_
          exact OwnW.retI d2_47 rfl (by decide) (by decide) (⟨by first | (simp only [f2_4_4, if_pos hc17, if_neg hc17_1, if_pos hc17_2, if_neg hc39]; done) | (simp only [f2_4_4, if_pos hc17, if_neg hc17_1, if_pos hc17_2, if_neg hc39]; rfl), rfl⟩)
      ·
        refine OwnW.ifcY (pc' := 22) d2_17 ((if0 _ _).trans (flt hc17_2).2.1) (by decide) (by decide) ?_
        refine OwnW.iinc (pc' := 25) (L' := #[.val (.ref q0), .val (.int (3 : Int32)), .val (.int (1 : Int32)), .val (.int (4 : Int32))]) (d := (1 : Int32)) d2_22 rfl rfl rfl rfl ?_
        refine OwnW.goto (pc' := 4) d2_25 (by decide) (by decide) ?_
        refine OwnW.iloadN (pc' := 5) d2_4 rfl rfl ?_
        refine OwnW.aloadN (pc' := 6) d2_5 rfl (rfl) rfl ?_
        obtain ⟨cl22, Ar22, qk22, Sz22, Mn22, Hv22, Gf22⟩ := id V_a
        refine OwnW.alen (pc' := 7) (x := (4 : Int32)) d2_6 Ar22 (len_of Sz22 Mn22) rfl ?_
        refine OwnW.icmpY (pc' := 28) d2_7 (flt (by decide)).2.1 (by decide) (by decide) ?_
        refine OwnW.iloadN (pc' := 29) d2_28 rfl rfl ?_
        refine OwnW.ifcN (pc' := 32) d2_29 ((if0 _ _).trans (flt (by decide)).1) rfl ?_
        refine OwnW.aloadN (pc' := 33) d2_32 rfl (rfl) rfl ?_
        refine OwnW.iloadN (pc' := 34) d2_33 rfl rfl ?_
        obtain ⟨cl23, Ar23, qk23, Sz23, Mn23, Hv23, Gf23⟩ := id V_a
        refine OwnW.laload (pc' := 35) (v := (.long d)) d2_34 Ar23 (inb_of Sz23 ⟨by decide, by decide⟩) (Hv23.at (inb_of Sz23 ⟨by decide, by decide⟩) rfl) rfl ?_
        refine OwnW.aloadN (pc' := 36) d2_35 rfl (rfl) rfl ?_
        refine OwnW.iloadN (pc' := 37) d2_36 rfl rfl ?_
        obtain ⟨cl24, Ar24, qk24, Sz24, Mn24, Hv24, Gf24⟩ := id V_a
        refine OwnW.laload (pc' := 38) (v := (.long b)) d2_37 Ar24 (inb_of Sz24 ⟨by decide, by decide⟩) (Hv24.at (inb_of Sz24 ⟨by decide, by decide⟩) rfl) rfl ?_
        refine OwnW.lcmp (pc' := 39) d2_38 rfl ?_
        by_cases hc39 : (lcmpW d b) = (0 : Int32)
        ·
          refine OwnW.ifcN (pc' := 42) d2_39 ((if0 _ _).trans (teq hc39).2) rfl ?_
          refine OwnW.iloadN (pc' := 43) d2_42 rfl rfl ?_
          refine OwnW.goto (pc' := 47) d2_43 (by decide) (by decide) ?_
          exact OwnW.retI d2_47 rfl (by decide) (by decide) (⟨by first | (simp only [f2_4_4, if_pos hc17, if_neg hc17_1, if_neg hc17_2, if_pos hc39]; done) | (simp only [f2_4_4, if_pos hc17, if_neg hc17_1, if_neg hc17_2, if_pos hc39]; rfl), rfl⟩)
        ·
          refine OwnW.ifcY (pc' := 46) d2_39 ((if0 _ _).trans (feq hc39).2) (by decide) (by decide) ?_
          refine OwnW.iloadN (pc' := 47) d2_46 rfl rfl ?_
          exact OwnW.retI d2_47 rfl (by decide) (by decide) (⟨by first | (simp only [f2_4_4, if_pos hc17, if_neg hc17_1, if_neg hc17_2, if_neg hc39]; done) | (simp only [f2_4_4, if_pos hc17, if_neg hc17_1, if_neg hc17_2, if_neg hc39]; rfl), rfl⟩)
  ·
    refine OwnW.ifcY (pc' := 22) d2_17 ((if0 _ _).trans (flt hc17).2.1) (by decide) (by decide) ?_
    refine OwnW.iinc (pc' := 25) (L' := #[.val (.ref q0), .val (.int (3 : Int32)), .val (.int (0 : Int32)), .val (.int (2 : Int32))]) (d := (1 : Int32)) d2_22 rfl rfl rfl rfl ?_
    refine OwnW.goto (pc' := 4) d2_25 (by decide) (by decide) ?_
    refine OwnW.iloadN (pc' := 5) d2_4 rfl rfl ?_
    refine OwnW.aloadN (pc' := 6) d2_5 rfl (rfl) rfl ?_
    obtain ⟨cl25, Ar25, qk25, Sz25, Mn25, Hv25, Gf25⟩ := id V_a
    refine OwnW.alen (pc' := 7) (x := (4 : Int32)) d2_6 Ar25 (len_of Sz25 Mn25) rfl ?_
    refine OwnW.icmpN (pc' := 10) d2_7 (tlt (by decide)).2.1 rfl ?_
    refine OwnW.aloadN (pc' := 11) d2_10 rfl (rfl) rfl ?_
    refine OwnW.iloadN (pc' := 12) d2_11 rfl rfl ?_
    obtain ⟨cl26, Ar26, qk26, Sz26, Mn26, Hv26, Gf26⟩ := id V_a
    refine OwnW.laload (pc' := 13) (v := (.long c)) d2_12 Ar26 (inb_of Sz26 ⟨by decide, by decide⟩) (Hv26.at (inb_of Sz26 ⟨by decide, by decide⟩) rfl) rfl ?_
    refine OwnW.aloadN (pc' := 14) d2_13 rfl (rfl) rfl ?_
    refine OwnW.iloadN (pc' := 15) d2_14 rfl rfl ?_
    obtain ⟨cl27, Ar27, qk27, Sz27, Mn27, Hv27, Gf27⟩ := id V_a
    refine OwnW.laload (pc' := 16) (v := (.long a)) d2_15 Ar27 (inb_of Sz27 ⟨by decide, by decide⟩) (Hv27.at (inb_of Sz27 ⟨by decide, by decide⟩) rfl) rfl ?_
    refine OwnW.lcmp (pc' := 17) d2_16 rfl ?_
    by_cases hc17_1 : (lcmpW c a) < (0 : Int32)
    ·
      refine OwnW.ifcN (pc' := 20) d2_17 ((if0 _ _).trans (tlt hc17_1).2.1) rfl ?_
      refine OwnW.iloadN (pc' := 21) d2_20 rfl rfl ?_
      refine OwnW.istoreN (pc' := 22) (L' := #[.val (.ref q0), .val (.int (3 : Int32)), .val (.int (2 : Int32)), .val (.int (2 : Int32))]) d2_21 rfl rfl ?_
      refine OwnW.iinc (pc' := 25) (L' := #[.val (.ref q0), .val (.int (3 : Int32)), .val (.int (2 : Int32)), .val (.int (3 : Int32))]) (d := (1 : Int32)) d2_22 rfl rfl rfl rfl ?_
      refine OwnW.goto (pc' := 4) d2_25 (by decide) (by decide) ?_
      refine OwnW.iloadN (pc' := 5) d2_4 rfl rfl ?_
      refine OwnW.aloadN (pc' := 6) d2_5 rfl (rfl) rfl ?_
      obtain ⟨cl28, Ar28, qk28, Sz28, Mn28, Hv28, Gf28⟩ := id V_a
      refine OwnW.alen (pc' := 7) (x := (4 : Int32)) d2_6 Ar28 (len_of Sz28 Mn28) rfl ?_
      refine OwnW.icmpN (pc' := 10) d2_7 (tlt (by decide)).2.1 rfl ?_
      refine OwnW.aloadN (pc' := 11) d2_10 rfl (rfl) rfl ?_
      refine OwnW.iloadN (pc' := 12) d2_11 rfl rfl ?_
      obtain ⟨cl29, Ar29, qk29, Sz29, Mn29, Hv29, Gf29⟩ := id V_a
      refine OwnW.laload (pc' := 13) (v := (.long d)) d2_12 Ar29 (inb_of Sz29 ⟨by decide, by decide⟩) (Hv29.at (inb_of Sz29 ⟨by decide, by decide⟩) rfl) rfl ?_
      refine OwnW.aloadN (pc' := 14) d2_13 rfl (rfl) rfl ?_
      refine OwnW.iloadN (pc' := 15) d2_14 rfl rfl ?_
      obtain ⟨cl30, Ar30, qk30, Sz30, Mn30, Hv30, Gf30⟩ := id V_a
      refine OwnW.laload (pc' := 16) (v := (.long c)) d2_15 Ar30 (inb_of Sz30 ⟨by decide, by decide⟩) (Hv30.at (inb_of Sz30 ⟨by decide, by decide⟩) rfl) rfl ?_
      refine OwnW.lcmp (pc' := 17) d2_16 rfl ?_
      by_cases hc17_2 : (lcmpW d c) < (0 : Int32)
      ·
        refine OwnW.ifcN (pc' := 20) d2_17 ((if0 _ _).trans (tlt hc17_2).2.1) rfl ?_
        refine OwnW.iloadN (pc' := 21) d2_20 rfl rfl ?_
        refine OwnW.istoreN (pc' := 22) (L' := #[.val (.ref q0), .val (.int (3 : Int32)), .val (.int (3 : Int32)), .val (.int (3 : Int32))]) d2_21 rfl rfl ?_
        refine OwnW.iinc (pc' := 25) (L' := #[.val (.ref q0), .val (.int (3 : Int32)), .val (.int (3 : Int32)), .val (.int (4 : Int32))]) (d := (1 : Int32)) d2_22 rfl rfl rfl rfl ?_
        refine OwnW.goto (pc' := 4) d2_25 (by decide) (by decide) ?_
        refine OwnW.iloadN (pc' := 5) d2_4 rfl rfl ?_
        refine OwnW.aloadN (pc' := 6) d2_5 rfl (rfl) rfl ?_
        obtain ⟨cl31, Ar31, qk31, Sz31, Mn31, Hv31, Gf31⟩ := id V_a
        refine OwnW.alen (pc' := 7) (x := (4 : Int32)) d2_6 Ar31 (len_of Sz31 Mn31) rfl ?_
        refine OwnW.icmpY (pc' := 28) d2_7 (flt (by decide)).2.1 (by decide) (by decide) ?_
        refine OwnW.iloadN (pc' := 29) d2_28 rfl rfl ?_
        refine OwnW.ifcN (pc' := 32) d2_29 ((if0 _ _).trans (flt (by decide)).1) rfl ?_
        refine OwnW.aloadN (pc' := 33) d2_32 rfl (rfl) rfl ?_
        refine OwnW.iloadN (pc' := 34) d2_33 rfl rfl ?_
        obtain ⟨cl32, Ar32, qk32, Sz32, Mn32, Hv32, Gf32⟩ := id V_a
        refine OwnW.laload (pc' := 35) (v := (.long d)) d2_34 Ar32 (inb_of Sz32 ⟨by decide, by decide⟩) (Hv32.at (inb_of Sz32 ⟨by decide, by decide⟩) rfl) rfl ?_
        refine OwnW.aloadN (pc' := 36) d2_35 rfl (rfl) rfl ?_
        refine OwnW.iloadN (pc' := 37) d2_36 rfl rfl ?_
        obtain ⟨cl33, Ar33, qk33, Sz33, Mn33, Hv33, Gf33⟩ := id V_a
        refine OwnW.laload (pc' := 38) (v := (.long d)) d2_37 Ar33 (inb_of Sz33 ⟨by decide, by decide⟩) (Hv33.at (inb_of Sz33 ⟨by decide, by decide⟩) rfl) rfl ?_
        refine OwnW.lcmp (pc' := 39) d2_38 rfl ?_
        by_cases hc39 : (lcmpW d d) = (0 : Int32)
        ·
          refine OwnW.ifcN (pc' := 42) d2_39 ((if0 _ _).trans (teq hc39).2) rfl ?_
          refine OwnW.iloadN (pc' := 43) d2_42 rfl rfl ?_
          refine OwnW.goto (pc' := 47) d2_43 (by decide) (by decide) ?_
          exact OwnW.retI d2_47 rfl (by decide) (by decide) (⟨by first | (simp only [f2_4_4, if_neg hc17, if_pos hc17_1, if_pos hc17_2, if_pos hc39]; done) | (simp only [f2_4_4, if_neg hc17, if_pos hc17_1, if_pos hc17_2, if_pos hc39]; rfl), rfl⟩)
        ·
          refine OwnW.ifcY (pc' := 46) d2_39 ((if0 _ _).trans (feq hc39).2) (by decide) (by decide) ?_
          refine OwnW.iloadN (pc' := 47) d2_46 rfl rfl ?_
          exact OwnW.retI d2_47 rfl (by decide) (by decide) (⟨by first | (simp only [f2_4_4, if_neg hc17, if_pos hc17_1, if_pos hc17_2, if_neg hc39]; done) | (simp only [f2_4_4, if_neg hc17, if_pos hc17_1, if_pos hc17_2, if_neg hc39]; rfl), rfl⟩)
      ·
        refine OwnW.ifcY (pc' := 22) d2_17 ((if0 _ _).trans (flt hc17_2).2.1) (by decide) (by decide) ?_
        refine OwnW.iinc (pc' := 25) (L' := #[.val (.ref q0), .val (.int (3 : Int32)), .val (.int (2 : Int32)), .val (.int (4 : Int32))]) (d := (1 : Int32)) d2_22 rfl rfl rfl rfl ?_
        refine OwnW.goto (pc' := 4) d2_25 (by decide) (by decide) ?_
        refine OwnW.iloadN (pc' := 5) d2_4 rfl rfl ?_
        refine OwnW.aloadN (pc' := 6) d2_5 rfl (rfl) rfl ?_
        obtain ⟨cl34, Ar34, qk34, Sz34, Mn34, Hv34, Gf34⟩ := id V_a
        refine OwnW.alen (pc' := 7) (x := (4 : Int32)) d2_6 Ar34 (len_of Sz34 Mn34) rfl ?_
        refine OwnW.icmpY (pc' := 28) d2_7 (flt (by decide)).2.1 (by decide) (by decide) ?_
        refine OwnW.iloadN (pc' := 29) d2_28 rfl rfl ?_
        refine OwnW.ifcN (pc' := 32) d2_29 ((if0 _ _).trans (flt (by decide)).1) rfl ?_
        refine OwnW.aloadN (pc' := 33) d2_32 rfl (rfl) rfl ?_
        refine OwnW.iloadN (pc' := 34) d2_33 rfl rfl ?_
        obtain ⟨cl35, Ar35, qk35, Sz35, Mn35, Hv35, Gf35⟩ := id V_a
        refine OwnW.laload (pc' := 35) (v := (.long d)) d2_34 Ar35 (inb_of Sz35 ⟨by decide, by decide⟩) (Hv35.at (inb_of Sz35 ⟨by decide, by decide⟩) rfl) rfl ?_
        refine OwnW.aloadN (pc' := 36) d2_35 rfl (rfl) rfl ?_
        refine OwnW.iloadN (pc' := 37) d2_36 rfl rfl ?_
        obtain ⟨cl36, Ar36, qk36, Sz36, Mn36, Hv36, Gf36⟩ := id V_a
        refine OwnW.laload (pc' := 38) (v := (.long c)) d2_37 Ar36 (inb_of Sz36 ⟨by decide, by decide⟩) (Hv36.at (inb_of Sz36 ⟨by decide, by decide⟩) rfl) rfl ?_
        refine OwnW.lcmp (pc' := 39) d2_38 rfl ?_
        by_cases hc39 : (lcmpW d c) = (0 : Int32)
        ·
          refine OwnW.ifcN (pc' := 42) d2_39 ((if0 _ _).trans (teq hc39).2) rfl ?_
          refine OwnW.iloadN (pc' := 43) d2_42 rfl rfl ?_
          refine OwnW.goto (pc' := 47) d2_43 (by decide) (by decide) ?_
          exact OwnW.retI d2_47 rfl (by decide) (by decide) (⟨by first | (simp only [f2_4_4, if_neg hc17, if_pos hc17_1, if_neg hc17_2, if_pos hc39]; done) | (simp only [f2_4_4, if_neg hc17, if_pos hc17_1, if_neg hc17_2, if_pos hc39]; rfl), rfl⟩)
        ·
          refine OwnW.ifcY (pc' := 46) d2_39 ((if0 _ _).trans (feq hc39).2) (by decide) (by decide) ?_
          refine OwnW.iloadN (pc' := 47) d2_46 rfl rfl ?_
          exact OwnW.retI d2_47 rfl (by decide) (by decide) (⟨by first | (simp only [f2_4_4, if_neg hc17, if_pos hc17_1, if_neg hc17_2, if_neg hc39]; done) | (simp only [f2_4_4, if_neg hc17, if_pos hc17_1, if_neg hc17_2, if_neg hc39]; rfl), rfl⟩)
    ·
      refine OwnW.ifcY (pc' := 22) d2_17 ((if0 _ _).trans (flt hc17_1).2.1) (by decide) (by decide) ?_
      refine OwnW.iinc (pc' := 25) (L' := #[.val (.ref q0), .val (.int (3 : Int32)), .val (.int (0 : Int32)), .val (.int (3 : Int32))]) (d := (1 : Int32)) d2_22 rfl rfl rfl rfl ?_
      refine OwnW.goto (pc' := 4) d2_25 (by decide) (by decide) ?_
      refine OwnW.iloadN (pc' := 5) d2_4 rfl rfl ?_
      refine OwnW.aloadN (pc' := 6) d2_5 rfl (rfl) rfl ?_
      obtain ⟨cl37, Ar37, qk37, Sz37, Mn37, Hv37, Gf37⟩ := id V_a
      refine OwnW.alen (pc' := 7) (x := (4 : Int32)) d2_6 Ar37 (len_of Sz37 Mn37) rfl ?_
      refine OwnW.icmpN (pc' := 10) d2_7 (tlt (by decide)).2.1 rfl ?_
      refine OwnW.aloadN (pc' := 11) d2_10 rfl (rfl) rfl ?_
      refine OwnW.iloadN (pc' := 12) d2_11 rfl rfl ?_
      obtain ⟨cl38, Ar38, qk38, Sz38, Mn38, Hv38, Gf38⟩ := id V_a
      refine OwnW.laload (pc' := 13) (v := (.long d)) d2_12 Ar38 (inb_of Sz38 ⟨by decide, by decide⟩) (Hv38.at (inb_of Sz38 ⟨by decide, by decide⟩) rfl) rfl ?_
      refine OwnW.aloadN (pc' := 14) d2_13 rfl (rfl) rfl ?_
      refine OwnW.iloadN (pc' := 15) d2_14 rfl rfl ?_
      obtain ⟨cl39, Ar39, qk39, Sz39, Mn39, Hv39, Gf39⟩ := id V_a
      refine OwnW.laload (pc' := 16) (v := (.long a)) d2_15 Ar39 (inb_of Sz39 ⟨by decide, by decide⟩) (Hv39.at (inb_of Sz39 ⟨by decide, by decide⟩) rfl) rfl ?_
      refine OwnW.lcmp (pc' := 17) d2_16 rfl ?_
      by_cases hc17_2 : (lcmpW d a) < (0 : Int32)
      ·
        refine OwnW.ifcN (pc' := 20) d2_17 ((if0 _ _).trans (tlt hc17_2).2.1) rfl ?_
        refine OwnW.iloadN (pc' := 21) d2_20 rfl rfl ?_
        refine OwnW.istoreN (pc' := 22) (L' := #[.val (.ref q0), .val (.int (3 : Int32)), .val (.int (3 : Int32)), .val (.int (3 : Int32))]) d2_21 rfl rfl ?_
        refine OwnW.iinc (pc' := 25) (L' := #[.val (.ref q0), .val (.int (3 : Int32)), .val (.int (3 : Int32)), .val (.int (4 : Int32))]) (d := (1 : Int32)) d2_22 rfl rfl rfl rfl ?_
        refine OwnW.goto (pc' := 4) d2_25 (by decide) (by decide) ?_
        refine OwnW.iloadN (pc' := 5) d2_4 rfl rfl ?_
        refine OwnW.aloadN (pc' := 6) d2_5 rfl (rfl) rfl ?_
        obtain ⟨cl40, Ar40, qk40, Sz40, Mn40, Hv40, Gf40⟩ := id V_a
        refine OwnW.alen (pc' := 7) (x := (4 : Int32)) d2_6 Ar40 (len_of Sz40 Mn40) rfl ?_
        refine OwnW.icmpY (pc' := 28) d2_7 (flt (by decide)).2.1 (by decide) (by decide) ?_
        refine OwnW.iloadN (pc' := 29) d2_28 rfl rfl ?_
        refine OwnW.ifcN (pc' := 32) d2_29 ((if0 _ _).trans (flt (by decide)).1) rfl ?_
        refine OwnW.aloadN (pc' := 33) d2_32 rfl (rfl) rfl ?_
        refine OwnW.iloadN (pc' := 34) d2_33 rfl rfl ?_
        obtain ⟨cl41, Ar41, qk41, Sz41, Mn41, Hv41, Gf41⟩ := id V_a
        refine OwnW.laload (pc' := 35) (v := (.long d)) d2_34 Ar41 (inb_of Sz41 ⟨by decide, by decide⟩) (Hv41.at (inb_of Sz41 ⟨by decide, by decide⟩) rfl) rfl ?_
        refine OwnW.aloadN (pc' := 36) d2_35 rfl (rfl) rfl ?_
        refine OwnW.iloadN (pc' := 37) d2_36 rfl rfl ?_
        obtain ⟨cl42, Ar42, qk42, Sz42, Mn42, Hv42, Gf42⟩ := id V_a
        refine OwnW.laload (pc' := 38) (v := (.long d)) d2_37 Ar42 (inb_of Sz42 ⟨by decide, by decide⟩) (Hv42.at (inb_of Sz42 ⟨by decide, by decide⟩) rfl) rfl ?_
        refine OwnW.lcmp (pc' := 39) d2_38 rfl ?_
        by_cases hc39 : (lcmpW d d) = (0 : Int32)
        ·
          refine OwnW.ifcN (pc' := 42) d2_39 ((if0 _ _).trans (teq hc39).2) rfl ?_
          refine OwnW.iloadN (pc' := 43) d2_42 rfl rfl ?_
          refine OwnW.goto (pc' := 47) d2_43 (by decide) (by decide) ?_
          exact OwnW.retI d2_47 rfl (by decide) (by decide) (⟨by first | (simp only [f2_4_4, if_neg hc17, if_neg hc17_1, if_pos hc17_2, if_pos hc39]; done) | (simp only [f2_4_4, if_neg hc17, if_neg hc17_1, if_pos hc17_2, if_pos hc39]; rfl), rfl⟩)
        ·
          refine OwnW.ifcY (pc' := 46) d2_39 ((if0 _ _).trans (feq hc39).2) (by decide) (by decide) ?_
          refine OwnW.iloadN (pc' := 47) d2_46 rfl rfl ?_
          exact OwnW.retI d2_47 rfl (by decide) (by decide) (⟨by first | (simp only [f2_4_4, if_neg hc17, if_neg hc17_1, if_pos hc17_2, if_neg hc39]; done) | (simp only [f2_4_4, if_neg hc17, if_neg hc17_1, if_pos hc17_2, if_neg hc39]; rfl), rfl⟩)
      ·
        refine OwnW.ifcY (pc' := 22) d2_17 ((if0 _ _).trans (flt hc17_2).2.1) (by decide) (by decide) ?_
        refine OwnW.iinc (pc' := 25) (L' := #[.val (.ref q0), .val (.int (3 : Int32)), .val (.int (0 : Int32)), .val (.int (4 : Int32))]) (d := (1 : Int32)) d2_22 rfl rfl rfl rfl ?_
        refine OwnW.goto (pc' := 4) d2_25 (by decide) (by decide) ?_
        refine OwnW.iloadN (pc' := 5) d2_4 rfl rfl ?_
        refine OwnW.aloadN (pc' := 6) d2_5 rfl (rfl) rfl ?_
        obtain ⟨cl43, Ar43, qk43, Sz43, Mn43, Hv43, Gf43⟩ := id V_a
        refine OwnW.alen (pc' := 7) (x := (4 : Int32)) d2_6 Ar43 (len_of Sz43 Mn43) rfl ?_
        refine OwnW.icmpY (pc' := 28) d2_7 (flt (by decide)).2.1 (by decide) (by decide) ?_
        refine OwnW.iloadN (pc' := 29) d2_28 rfl rfl ?_
        refine OwnW.ifcN (pc' := 32) d2_29 ((if0 _ _).trans (flt (by decide)).1) rfl ?_
        refine OwnW.aloadN (pc' := 33) d2_32 rfl (rfl) rfl ?_
        refine OwnW.iloadN (pc' := 34) d2_33 rfl rfl ?_
        obtain ⟨cl44, Ar44, qk44, Sz44, Mn44, Hv44, Gf44⟩ := id V_a
        refine OwnW.laload (pc' := 35) (v := (.long d)) d2_34 Ar44 (inb_of Sz44 ⟨by decide, by decide⟩) (Hv44.at (inb_of Sz44 ⟨by decide, by decide⟩) rfl) rfl ?_
        refine OwnW.aloadN (pc' := 36) d2_35 rfl (rfl) rfl ?_
        refine OwnW.iloadN (pc' := 37) d2_36 rfl rfl ?_
        obtain ⟨cl45, Ar45, qk45, Sz45, Mn45, Hv45, Gf45⟩ := id V_a
        refine OwnW.laload (pc' := 38) (v := (.long a)) d2_37 Ar45 (inb_of Sz45 ⟨by decide, by decide⟩) (Hv45.at (inb_of Sz45 ⟨by decide, by decide⟩) rfl) rfl ?_
        refine OwnW.lcmp (pc' := 39) d2_38 rfl ?_
        by_cases hc39 : (lcmpW d a) = (0 : Int32)
        ·
          refine OwnW.ifcN (pc' := 42) d2_39 ((if0 _ _).trans (teq hc39).2) rfl ?_
          refine OwnW.iloadN (pc' := 43) d2_42 rfl rfl ?_
          refine OwnW.goto (pc' := 47) d2_43 (by decide) (by decide) ?_
          exact OwnW.retI d2_47 rfl (by decide) (by decide) (⟨by first | (simp only [f2_4_4, if_neg hc17, if_neg hc17_1, if_neg hc17_2, if_pos hc39]; done) | (simp only [f2_4_4, if_neg hc17, if_neg hc17_1, if_neg hc17_2, if_pos hc39]; rfl), rfl⟩)
        ·
          refine OwnW.ifcY (pc' := 46) d2_39 ((if0 _ _).trans (feq hc39).2) (by decide) (by decide) ?_
          refine OwnW.iloadN (pc' := 47) d2_46 rfl rfl ?_
          exact OwnW.retI d2_47 rfl (by decide) (by decide) (⟨by first | (simp only [f2_4_4, if_neg hc17, if_neg hc17_1, if_neg hc17_2, if_neg hc39]; done) | (simp only [f2_4_4, if_neg hc17, if_neg hc17_1, if_neg hc17_2, if_neg hc39]; rfl), rfl⟩)

theorem own_n {sel n : Int32} (hn : n = ((1 : Int32) + (sel &&& (3 : Int32)))) : n = (1 : Int32) ∨ n = (2 : Int32) ∨ n = (3 : Int32) ∨ n = (4 : Int32) := by
  have e := c_mask sel 3 2 (by decide) (by decide)
  have s := c_iadd 1 (sel &&& 3)
  have r := rng32 n
  rw [← hn] at s
  have o : (1 : Int32).toInt = 1 := by decide
  have b : n.toInt = 1 ∨ n.toInt = 2 ∨ n.toInt = 3 ∨ n.toInt = 4 := by omega
  simpa [← Int32.toInt_inj] using b

theorem own_pr1 {pick pr : Int32} (hpr : pr = (((pick &&& (2147483647 : Int32)) % (2 : Int32)) - (1 : Int32))) : pr = (-1 : Int32) ∨ pr = (0 : Int32) := by
  have e := c_mask pick 2147483647 31 (by decide) (by decide)
  have q := (c_irem (pick &&& 2147483647) 2 2 (by decide)).1 (by omega)
  have s := c_isub ((pick &&& 2147483647) % 2) 1
  have r := rng32 pr
  rw [← hpr] at s
  have o : (1 : Int32).toInt = 1 := by decide
  have b : pr.toInt = -1 ∨ pr.toInt = 0 := by omega
  simpa [← Int32.toInt_inj] using b

theorem own_pr2 {pick pr : Int32} (hpr : pr = (((pick &&& (2147483647 : Int32)) % (3 : Int32)) - (1 : Int32))) : pr = (-1 : Int32) ∨ pr = (0 : Int32) ∨ pr = (1 : Int32) := by
  have e := c_mask pick 2147483647 31 (by decide) (by decide)
  have q := (c_irem (pick &&& 2147483647) 3 3 (by decide)).1 (by omega)
  have s := c_isub ((pick &&& 2147483647) % 3) 1
  have r := rng32 pr
  rw [← hpr] at s
  have o : (1 : Int32).toInt = 1 := by decide
  have b : pr.toInt = -1 ∨ pr.toInt = 0 ∨ pr.toInt = 1 := by omega
  simpa [← Int32.toInt_inj] using b

theorem own_pr3 {pick pr : Int32} (hpr : pr = (((pick &&& (2147483647 : Int32)) % (4 : Int32)) - (1 : Int32))) : pr = (-1 : Int32) ∨ pr = (0 : Int32) ∨ pr = (1 : Int32) ∨ pr = (2 : Int32) := by
  have e := c_mask pick 2147483647 31 (by decide) (by decide)
  have q := (c_irem (pick &&& 2147483647) 4 4 (by decide)).1 (by omega)
  have s := c_isub ((pick &&& 2147483647) % 4) 1
  have r := rng32 pr
  rw [← hpr] at s
  have o : (1 : Int32).toInt = 1 := by decide
  have b : pr.toInt = -1 ∨ pr.toInt = 0 ∨ pr.toInt = 1 ∨ pr.toInt = 2 := by omega
  simpa [← Int32.toInt_inj] using b

theorem own_pr4 {pick pr : Int32} (hpr : pr = (((pick &&& (2147483647 : Int32)) % (5 : Int32)) - (1 : Int32))) : pr = (-1 : Int32) ∨ pr = (0 : Int32) ∨ pr = (1 : Int32) ∨ pr = (2 : Int32) ∨ pr = (3 : Int32) := by
  have e := c_mask pick 2147483647 31 (by decide) (by decide)
  have q := (c_irem (pick &&& 2147483647) 5 5 (by decide)).1 (by omega)
  have s := c_isub ((pick &&& 2147483647) % 5) 1
  have r := rng32 pr
  rw [← hpr] at s
  have o : (1 : Int32).toInt = 1 := by decide
  have b : pr.toInt = -1 ∨ pr.toInt = 0 ∨ pr.toInt = 1 ∨ pr.toInt = 2 ∨ pr.toInt = 3 := by omega
  simpa [← Int32.toInt_inj] using b


set_option maxHeartbeats 40000000 in
theorem own_law1_0 {q0 : Addr} {kk : ClassId} {a b c d : Int64} {fi : Int32} (hfi : fi = (if (lcmpW a a) = (0 : Int32) then (0 : Int32) else (if (lcmpW b a) = (0 : Int32) then (1 : Int32) else (if (lcmpW c a) = (0 : Int32) then (2 : Int32) else (3 : Int32))))) : f2_1_0 q0 kk a = fi := by
  subst hfi
  simp only [f2_1_0, f1, lw_eq, lw_lt, lw_gt]
  simp only [← Int64.toInt_inj, Int64.lt_iff_toInt_lt]
  repeat' split
  all_goals first | rfl | omega | (exfalso; simp_all; omega) | simp_all

set_option maxHeartbeats 40000000 in
theorem own_law1_1 {q0 : Addr} {kk : ClassId} {a b c d : Int64} {fi : Int32} (hfi : fi = (if (lcmpW a a) = (0 : Int32) then (0 : Int32) else (if (lcmpW b a) = (0 : Int32) then (1 : Int32) else (if (lcmpW c a) = (0 : Int32) then (2 : Int32) else (3 : Int32))))) {kp ex : Int32} (hkp : kp = (if (lcmpW a a) = (0 : Int32) then (1 : Int32) else (0 : Int32))) (hex : ex = (if kp = (0 : Int32) then fi else (0 : Int32))) : f2_1_1 q0 kk a = ex := by
  subst hex hkp hfi
  simp only [f2_1_1, f1, lw_eq, lw_lt, lw_gt]
  simp only [← Int64.toInt_inj, Int64.lt_iff_toInt_lt]
  repeat' split
  all_goals first | rfl | omega | (exfalso; simp_all; omega) | simp_all

set_option maxHeartbeats 40000000 in
theorem own_law2_0 {q0 : Addr} {kk : ClassId} {a b c d : Int64} {fi : Int32} (hfi : fi = (if (lcmpW a (f1 a b)) = (0 : Int32) then (0 : Int32) else (if (lcmpW b (f1 a b)) = (0 : Int32) then (1 : Int32) else (if (lcmpW c (f1 a b)) = (0 : Int32) then (2 : Int32) else (3 : Int32))))) : f2_2_0 q0 kk a b = fi := by
  subst hfi
  simp only [f2_2_0, f1, lw_eq, lw_lt, lw_gt]
  simp only [← Int64.toInt_inj, Int64.lt_iff_toInt_lt]
  repeat' split
  all_goals first | rfl | omega | (exfalso; simp_all; omega) | simp_all

set_option maxHeartbeats 40000000 in
theorem own_law2_1 {q0 : Addr} {kk : ClassId} {a b c d : Int64} {fi : Int32} (hfi : fi = (if (lcmpW a (f1 a b)) = (0 : Int32) then (0 : Int32) else (if (lcmpW b (f1 a b)) = (0 : Int32) then (1 : Int32) else (if (lcmpW c (f1 a b)) = (0 : Int32) then (2 : Int32) else (3 : Int32))))) {kp ex : Int32} (hkp : kp = (if (lcmpW a (f1 a b)) = (0 : Int32) then (1 : Int32) else (0 : Int32))) (hex : ex = (if kp = (0 : Int32) then fi else (0 : Int32))) : f2_2_1 q0 kk a b = ex := by
  subst hex hkp hfi
  simp only [f2_2_1, f1, lw_eq, lw_lt, lw_gt]
  simp only [← Int64.toInt_inj, Int64.lt_iff_toInt_lt]
  repeat' split
  all_goals first | rfl | omega | (exfalso; simp_all; omega) | simp_all

set_option maxHeartbeats 40000000 in
theorem own_law2_2 {q0 : Addr} {kk : ClassId} {a b c d : Int64} {fi : Int32} (hfi : fi = (if (lcmpW a (f1 a b)) = (0 : Int32) then (0 : Int32) else (if (lcmpW b (f1 a b)) = (0 : Int32) then (1 : Int32) else (if (lcmpW c (f1 a b)) = (0 : Int32) then (2 : Int32) else (3 : Int32))))) {kp ex : Int32} (hkp : kp = (if (lcmpW b (f1 a b)) = (0 : Int32) then (1 : Int32) else (0 : Int32))) (hex : ex = (if kp = (0 : Int32) then fi else (1 : Int32))) : f2_2_2 q0 kk a b = ex := by
  subst hex hkp hfi
  simp only [f2_2_2, f1, lw_eq, lw_lt, lw_gt]
  simp only [← Int64.toInt_inj, Int64.lt_iff_toInt_lt]
  repeat' split
  all_goals first | rfl | omega | (exfalso; simp_all; omega) | simp_all

set_option maxHeartbeats 40000000 in
theorem own_law3_0 {q0 : Addr} {kk : ClassId} {a b c d : Int64} {fi : Int32} (hfi : fi = (if (lcmpW a (f1 (f1 a b) c)) = (0 : Int32) then (0 : Int32) else (if (lcmpW b (f1 (f1 a b) c)) = (0 : Int32) then (1 : Int32) else (if (lcmpW c (f1 (f1 a b) c)) = (0 : Int32) then (2 : Int32) else (3 : Int32))))) : f2_3_0 q0 kk a b c = fi := by
  subst hfi
  simp only [f2_3_0, f1, lw_eq, lw_lt, lw_gt]
  simp only [← Int64.toInt_inj, Int64.lt_iff_toInt_lt]
  repeat' split
  all_goals first | rfl | omega | (exfalso; simp_all; omega) | simp_all

set_option maxHeartbeats 40000000 in
theorem own_law3_1 {q0 : Addr} {kk : ClassId} {a b c d : Int64} {fi : Int32} (hfi : fi = (if (lcmpW a (f1 (f1 a b) c)) = (0 : Int32) then (0 : Int32) else (if (lcmpW b (f1 (f1 a b) c)) = (0 : Int32) then (1 : Int32) else (if (lcmpW c (f1 (f1 a b) c)) = (0 : Int32) then (2 : Int32) else (3 : Int32))))) {kp ex : Int32} (hkp : kp = (if (lcmpW a (f1 (f1 a b) c)) = (0 : Int32) then (1 : Int32) else (0 : Int32))) (hex : ex = (if kp = (0 : Int32) then fi else (0 : Int32))) : f2_3_1 q0 kk a b c = ex := by
  subst hex hkp hfi
  simp only [f2_3_1, f1, lw_eq, lw_lt, lw_gt]
  simp only [← Int64.toInt_inj, Int64.lt_iff_toInt_lt]
  repeat' split
  all_goals first | rfl | omega | (exfalso; simp_all; omega) | simp_all

set_option maxHeartbeats 40000000 in
theorem own_law3_2 {q0 : Addr} {kk : ClassId} {a b c d : Int64} {fi : Int32} (hfi : fi = (if (lcmpW a (f1 (f1 a b) c)) = (0 : Int32) then (0 : Int32) else (if (lcmpW b (f1 (f1 a b) c)) = (0 : Int32) then (1 : Int32) else (if (lcmpW c (f1 (f1 a b) c)) = (0 : Int32) then (2 : Int32) else (3 : Int32))))) {kp ex : Int32} (hkp : kp = (if (lcmpW b (f1 (f1 a b) c)) = (0 : Int32) then (1 : Int32) else (0 : Int32))) (hex : ex = (if kp = (0 : Int32) then fi else (1 : Int32))) : f2_3_2 q0 kk a b c = ex := by
  subst hex hkp hfi
  simp only [f2_3_2, f1, lw_eq, lw_lt, lw_gt]
  simp only [← Int64.toInt_inj, Int64.lt_iff_toInt_lt]
  repeat' split
  all_goals first | rfl | omega | (exfalso; simp_all; omega) | simp_all

set_option maxHeartbeats 40000000 in
theorem own_law3_3 {q0 : Addr} {kk : ClassId} {a b c d : Int64} {fi : Int32} (hfi : fi = (if (lcmpW a (f1 (f1 a b) c)) = (0 : Int32) then (0 : Int32) else (if (lcmpW b (f1 (f1 a b) c)) = (0 : Int32) then (1 : Int32) else (if (lcmpW c (f1 (f1 a b) c)) = (0 : Int32) then (2 : Int32) else (3 : Int32))))) {kp ex : Int32} (hkp : kp = (if (lcmpW c (f1 (f1 a b) c)) = (0 : Int32) then (1 : Int32) else (0 : Int32))) (hex : ex = (if kp = (0 : Int32) then fi else (2 : Int32))) : f2_3_3 q0 kk a b c = ex := by
  subst hex hkp hfi
  simp only [f2_3_3, f1, lw_eq, lw_lt, lw_gt]
  simp only [← Int64.toInt_inj, Int64.lt_iff_toInt_lt]
  repeat' split
  all_goals first | rfl | omega | (exfalso; simp_all; omega) | simp_all

set_option maxHeartbeats 40000000 in
theorem own_law4_0 {q0 : Addr} {kk : ClassId} {a b c d : Int64} {fi : Int32} (hfi : fi = (if (lcmpW a (f1 (f1 (f1 a b) c) d)) = (0 : Int32) then (0 : Int32) else (if (lcmpW b (f1 (f1 (f1 a b) c) d)) = (0 : Int32) then (1 : Int32) else (if (lcmpW c (f1 (f1 (f1 a b) c) d)) = (0 : Int32) then (2 : Int32) else (3 : Int32))))) : f2_4_0 q0 kk a b c d = fi := by
  subst hfi
  simp only [f2_4_0, f1, lw_eq, lw_lt, lw_gt]
  simp only [← Int64.toInt_inj, Int64.lt_iff_toInt_lt]
  repeat' split
  all_goals first | rfl | omega | (exfalso; simp_all; omega) | simp_all

set_option maxHeartbeats 40000000 in
theorem own_law4_1 {q0 : Addr} {kk : ClassId} {a b c d : Int64} {fi : Int32} (hfi : fi = (if (lcmpW a (f1 (f1 (f1 a b) c) d)) = (0 : Int32) then (0 : Int32) else (if (lcmpW b (f1 (f1 (f1 a b) c) d)) = (0 : Int32) then (1 : Int32) else (if (lcmpW c (f1 (f1 (f1 a b) c) d)) = (0 : Int32) then (2 : Int32) else (3 : Int32))))) {kp ex : Int32} (hkp : kp = (if (lcmpW a (f1 (f1 (f1 a b) c) d)) = (0 : Int32) then (1 : Int32) else (0 : Int32))) (hex : ex = (if kp = (0 : Int32) then fi else (0 : Int32))) : f2_4_1 q0 kk a b c d = ex := by
  subst hex hkp hfi
  simp only [f2_4_1, f1, lw_eq, lw_lt, lw_gt]
  simp only [← Int64.toInt_inj, Int64.lt_iff_toInt_lt]
  repeat' split
  all_goals first | rfl | omega | (exfalso; simp_all; omega) | simp_all

set_option maxHeartbeats 40000000 in
theorem own_law4_2 {q0 : Addr} {kk : ClassId} {a b c d : Int64} {fi : Int32} (hfi : fi = (if (lcmpW a (f1 (f1 (f1 a b) c) d)) = (0 : Int32) then (0 : Int32) else (if (lcmpW b (f1 (f1 (f1 a b) c) d)) = (0 : Int32) then (1 : Int32) else (if (lcmpW c (f1 (f1 (f1 a b) c) d)) = (0 : Int32) then (2 : Int32) else (3 : Int32))))) {kp ex : Int32} (hkp : kp = (if (lcmpW b (f1 (f1 (f1 a b) c) d)) = (0 : Int32) then (1 : Int32) else (0 : Int32))) (hex : ex = (if kp = (0 : Int32) then fi else (1 : Int32))) : f2_4_2 q0 kk a b c d = ex := by
  subst hex hkp hfi
  simp only [f2_4_2, f1, lw_eq, lw_lt, lw_gt]
  simp only [← Int64.toInt_inj, Int64.lt_iff_toInt_lt]
  repeat' split
  all_goals first | rfl | omega | (exfalso; simp_all; omega) | simp_all

set_option maxHeartbeats 40000000 in
theorem own_law4_3 {q0 : Addr} {kk : ClassId} {a b c d : Int64} {fi : Int32} (hfi : fi = (if (lcmpW a (f1 (f1 (f1 a b) c) d)) = (0 : Int32) then (0 : Int32) else (if (lcmpW b (f1 (f1 (f1 a b) c) d)) = (0 : Int32) then (1 : Int32) else (if (lcmpW c (f1 (f1 (f1 a b) c) d)) = (0 : Int32) then (2 : Int32) else (3 : Int32))))) {kp ex : Int32} (hkp : kp = (if (lcmpW c (f1 (f1 (f1 a b) c) d)) = (0 : Int32) then (1 : Int32) else (0 : Int32))) (hex : ex = (if kp = (0 : Int32) then fi else (2 : Int32))) : f2_4_3 q0 kk a b c d = ex := by
  subst hex hkp hfi
  simp only [f2_4_3, f1, lw_eq, lw_lt, lw_gt]
  simp only [← Int64.toInt_inj, Int64.lt_iff_toInt_lt]
  repeat' split
  all_goals first | rfl | omega | (exfalso; simp_all; omega) | simp_all

set_option maxHeartbeats 40000000 in
theorem own_law4_4 {q0 : Addr} {kk : ClassId} {a b c d : Int64} {fi : Int32} (hfi : fi = (if (lcmpW a (f1 (f1 (f1 a b) c) d)) = (0 : Int32) then (0 : Int32) else (if (lcmpW b (f1 (f1 (f1 a b) c) d)) = (0 : Int32) then (1 : Int32) else (if (lcmpW c (f1 (f1 (f1 a b) c) d)) = (0 : Int32) then (2 : Int32) else (3 : Int32))))) {kp ex : Int32} (hkp : kp = (if (lcmpW d (f1 (f1 (f1 a b) c) d)) = (0 : Int32) then (1 : Int32) else (0 : Int32))) (hex : ex = (if kp = (0 : Int32) then fi else (3 : Int32))) : f2_4_4 q0 kk a b c d = ex := by
  subst hex hkp hfi
  simp only [f2_4_4, f1, lw_eq, lw_lt, lw_gt]
  simp only [← Int64.toInt_inj, Int64.lt_iff_toInt_lt]
  repeat' split
  all_goals first | rfl | omega | (exfalso; simp_all; omega) | simp_all

abbrev GoB0 (l : Launch) (Z : State) (n0 : Nat) (Q : Option Value → Heap → Prop) := Go l Z room_1 x code maxLocals ret n0 Q
theorem ef0 (m : MethodId) (a0_ : Int64) (b0_ : Int64) (c0_ : Int64) (d0_ : Int64) (sel : Int32) (pick : Int32) : entryFrame m #[(.long a0_), (.long b0_), (.long c0_), (.long d0_), (.int sel), (.int pick)] maxLocals = mkF m 0 #[.val (.long a0_), .second, .val (.long b0_), .second, .val (.long c0_), .second, .val (.long d0_), .second, .val (.int sel), .val (.int pick), .unset, .unset, .unset, .unset, .unset, .unset, .unset, .unset, .unset, .unset, .unset, .unset, .unset, .unset, .unset, .unset, .unset, .unset, .unset] [] := by first | (simp [entryFrame, mkF, argsToLocals, Value.category, maxLocals]; done) | rfl
set_option maxRecDepth 65536 in
set_option maxHeartbeats 400000000 in
theorem rm0 (l : Launch) (Z : State) (a0 : Array Value) (hw : ∀ d ∈ tables_1, d.before a0 Z = true) (a0_ : Int64) (b0_ : Int64) (c0_ : Int64) (d0_ : Int64) (sel : Int32) (pick : Int32) (h0 : Heap) (n0 : Nat) (Z0 : n0 ≤ h0.size) :
    Con l Z room_1 x code maxLocals ret n0 #[(.long a0_), (.long b0_), (.long c0_), (.long d0_), (.int sel), (.int pick)] h0 OwnW.One1 := by
  refine OwnW.Con.of (by first | decide +kernel | exact plainFor_of_name (by simp [x, plainName, overriddenIn])) (fun m => ef0 m a0_ b0_ c0_ d0_ sel pick) ?_
  show GoB0 l Z n0 OwnW.One1 h0 0 0 0 #[.val (.long a0_), .second, .val (.long b0_), .second, .val (.long c0_), .second, .val (.long d0_), .second, .val (.int sel), .val (.int pick), .unset, .unset, .unset, .unset, .unset, .unset, .unset, .unset, .unset, .unset, .unset, .unset, .unset, .unset, .unset, .unset, .unset, .unset, .unset] []
  refine OwnW.iconst (pc' := 1) (v := (1 : Int32)) at_0 rfl rfl ?_
  refine OwnW.iload (pc' := 3) at_1 rfl rfl ?_
  refine OwnW.iconst (pc' := 4) (v := (3 : Int32)) at_3 rfl rfl ?_
  refine OwnW.iand (pc' := 5) at_4 rfl ?_
  refine OwnW.iadd (pc' := 6) at_5 rfl ?_
  obtain ⟨n, hn⟩ : ∃ z, z = ((1 : Int32) + (sel &&& (3 : Int32))) := ⟨_, rfl⟩
  rw [← hn]
  show GoB0 l Z n0 OwnW.One1 h0 0 0 6 #[.val (.long a0_), .second, .val (.long b0_), .second, .val (.long c0_), .second, .val (.long d0_), .second, .val (.int sel), .val (.int pick), .unset, .unset, .unset, .unset, .unset, .unset, .unset, .unset, .unset, .unset, .unset, .unset, .unset, .unset, .unset, .unset, .unset, .unset, .unset] [(.int n)]
  refine OwnW.istore (pc' := 8) (L' := #[.val (.long a0_), .second, .val (.long b0_), .second, .val (.long c0_), .second, .val (.long d0_), .second, .val (.int sel), .val (.int pick), .val (.int n), .unset, .unset, .unset, .unset, .unset, .unset, .unset, .unset, .unset, .unset, .unset, .unset, .unset, .unset, .unset, .unset, .unset, .unset]) at_6 rfl rfl ?_
  refine OwnW.lloadN (pc' := 9) at_8 rfl rfl ?_
  refine OwnW.lstore (pc' := 11) (L' := #[.val (.long a0_), .second, .val (.long b0_), .second, .val (.long c0_), .second, .val (.long d0_), .second, .val (.int sel), .val (.int pick), .val (.int n), .val (.long a0_), .second, .unset, .unset, .unset, .unset, .unset, .unset, .unset, .unset, .unset, .unset, .unset, .unset, .unset, .unset, .unset, .unset]) at_9 rfl rfl ?_
  refine OwnW.lloadN (pc' := 12) at_11 rfl rfl ?_
  refine OwnW.lstore (pc' := 14) (L' := #[.val (.long a0_), .second, .val (.long b0_), .second, .val (.long c0_), .second, .val (.long d0_), .second, .val (.int sel), .val (.int pick), .val (.int n), .val (.long a0_), .second, .val (.long b0_), .second, .unset, .unset, .unset, .unset, .unset, .unset, .unset, .unset, .unset, .unset, .unset, .unset, .unset, .unset]) at_12 rfl rfl ?_
  refine OwnW.lload (pc' := 16) at_14 rfl rfl ?_
  refine OwnW.lstore (pc' := 18) (L' := #[.val (.long a0_), .second, .val (.long b0_), .second, .val (.long c0_), .second, .val (.long d0_), .second, .val (.int sel), .val (.int pick), .val (.int n), .val (.long a0_), .second, .val (.long b0_), .second, .val (.long c0_), .second, .unset, .unset, .unset, .unset, .unset, .unset, .unset, .unset, .unset, .unset, .unset, .unset]) at_16 rfl rfl ?_
  refine OwnW.lload (pc' := 20) at_18 rfl rfl ?_
  refine OwnW.lstore (pc' := 22) (L' := #[.val (.long a0_), .second, .val (.long b0_), .second, .val (.long c0_), .second, .val (.long d0_), .second, .val (.int sel), .val (.int pick), .val (.int n), .val (.long a0_), .second, .val (.long b0_), .second, .val (.long c0_), .second, .val (.long d0_), .second, .unset, .unset, .unset, .unset, .unset, .unset, .unset, .unset, .unset, .unset]) at_20 rfl rfl ?_
  refine OwnW.iload (pc' := 24) at_22 rfl rfl ?_
  refine OwnW.iconst (pc' := 25) (v := (4 : Int32)) at_24 rfl rfl ?_
  refine OwnW.iand (pc' := 26) at_25 rfl ?_
  suffices J26_33 : ∀ (b : Int64), b = (if (sel &&& (4 : Int32)) = (0 : Int32) then b0_ else a0_) → GoB0 l Z n0 OwnW.One1 h0 0 0 33 #[.val (.long a0_), .second, .val (.long b0_), .second, .val (.long c0_), .second, .val (.long d0_), .second, .val (.int sel), .val (.int pick), .val (.int n), .val (.long a0_), .second, .val (.long b), .second, .val (.long c0_), .second, .val (.long d0_), .second, .unset, .unset, .unset, .unset, .unset, .unset, .unset, .unset, .unset, .unset] [] by
    by_cases hc26 : (sel &&& (4 : Int32)) = (0 : Int32)
    ·
      refine OwnW.ifcY (pc' := 33) at_26 ((if0 _ _).trans (teq hc26).1) (by decide) (by decide) ?_
      exact J26_33 _ (by first | simp only [if_pos hc26] | rfl)
    ·
      refine OwnW.ifcN (pc' := 29) at_26 ((if0 _ _).trans (feq hc26).1) rfl ?_
      refine OwnW.lload (pc' := 31) at_29 rfl rfl ?_
      refine OwnW.lstore (pc' := 33) (L' := #[.val (.long a0_), .second, .val (.long b0_), .second, .val (.long c0_), .second, .val (.long d0_), .second, .val (.int sel), .val (.int pick), .val (.int n), .val (.long a0_), .second, .val (.long a0_), .second, .val (.long c0_), .second, .val (.long d0_), .second, .unset, .unset, .unset, .unset, .unset, .unset, .unset, .unset, .unset, .unset]) at_31 rfl rfl ?_
      exact J26_33 _ (by first | simp only [if_neg hc26] | rfl)
  intro b hb
  refine OwnW.iload (pc' := 35) at_33 rfl rfl ?_
  refine OwnW.bipush (pc' := 37) (v := (8 : Int32)) at_35 rfl rfl ?_
  refine OwnW.iand (pc' := 38) at_37 rfl ?_
  suffices J38_45 : ∀ (c : Int64), c = (if (sel &&& (8 : Int32)) = (0 : Int32) then c0_ else b) → GoB0 l Z n0 OwnW.One1 h0 0 0 45 #[.val (.long a0_), .second, .val (.long b0_), .second, .val (.long c0_), .second, .val (.long d0_), .second, .val (.int sel), .val (.int pick), .val (.int n), .val (.long a0_), .second, .val (.long b), .second, .val (.long c), .second, .val (.long d0_), .second, .unset, .unset, .unset, .unset, .unset, .unset, .unset, .unset, .unset, .unset] [] by
    by_cases hc38 : (sel &&& (8 : Int32)) = (0 : Int32)
    ·
      refine OwnW.ifcY (pc' := 45) at_38 ((if0 _ _).trans (teq hc38).1) (by decide) (by decide) ?_
      exact J38_45 _ (by first | simp only [if_pos hc38] | rfl)
    ·
      refine OwnW.ifcN (pc' := 41) at_38 ((if0 _ _).trans (feq hc38).1) rfl ?_
      refine OwnW.lload (pc' := 43) at_41 rfl rfl ?_
      refine OwnW.lstore (pc' := 45) (L' := #[.val (.long a0_), .second, .val (.long b0_), .second, .val (.long c0_), .second, .val (.long d0_), .second, .val (.int sel), .val (.int pick), .val (.int n), .val (.long a0_), .second, .val (.long b), .second, .val (.long b), .second, .val (.long d0_), .second, .unset, .unset, .unset, .unset, .unset, .unset, .unset, .unset, .unset, .unset]) at_43 rfl rfl ?_
      exact J38_45 _ (by first | simp only [if_neg hc38] | rfl)
  intro c hc
  refine OwnW.iload (pc' := 47) at_45 rfl rfl ?_
  refine OwnW.bipush (pc' := 49) (v := (16 : Int32)) at_47 rfl rfl ?_
  refine OwnW.iand (pc' := 50) at_49 rfl ?_
  suffices J50_57 : ∀ (d1 : Int64), d1 = (if (sel &&& (16 : Int32)) = (0 : Int32) then d0_ else a0_) → GoB0 l Z n0 OwnW.One1 h0 0 0 57 #[.val (.long a0_), .second, .val (.long b0_), .second, .val (.long c0_), .second, .val (.long d0_), .second, .val (.int sel), .val (.int pick), .val (.int n), .val (.long a0_), .second, .val (.long b), .second, .val (.long c), .second, .val (.long d1), .second, .unset, .unset, .unset, .unset, .unset, .unset, .unset, .unset, .unset, .unset] [] by
    by_cases hc50 : (sel &&& (16 : Int32)) = (0 : Int32)
    ·
      refine OwnW.ifcY (pc' := 57) at_50 ((if0 _ _).trans (teq hc50).1) (by decide) (by decide) ?_
      exact J50_57 _ (by first | simp only [if_pos hc50] | rfl)
    ·
      refine OwnW.ifcN (pc' := 53) at_50 ((if0 _ _).trans (feq hc50).1) rfl ?_
      refine OwnW.lload (pc' := 55) at_53 rfl rfl ?_
      refine OwnW.lstore (pc' := 57) (L' := #[.val (.long a0_), .second, .val (.long b0_), .second, .val (.long c0_), .second, .val (.long d0_), .second, .val (.int sel), .val (.int pick), .val (.int n), .val (.long a0_), .second, .val (.long b), .second, .val (.long c), .second, .val (.long a0_), .second, .unset, .unset, .unset, .unset, .unset, .unset, .unset, .unset, .unset, .unset]) at_55 rfl rfl ?_
      exact J50_57 _ (by first | simp only [if_neg hc50] | rfl)
  intro d1 hd1
  refine OwnW.iload (pc' := 59) at_57 rfl rfl ?_
  refine OwnW.bipush (pc' := 61) (v := (32 : Int32)) at_59 rfl rfl ?_
  refine OwnW.iand (pc' := 62) at_61 rfl ?_
  suffices J62_69 : ∀ (d : Int64), d = (if (sel &&& (32 : Int32)) = (0 : Int32) then d1 else c) → GoB0 l Z n0 OwnW.One1 h0 0 0 69 #[.val (.long a0_), .second, .val (.long b0_), .second, .val (.long c0_), .second, .val (.long d0_), .second, .val (.int sel), .val (.int pick), .val (.int n), .val (.long a0_), .second, .val (.long b), .second, .val (.long c), .second, .val (.long d), .second, .unset, .unset, .unset, .unset, .unset, .unset, .unset, .unset, .unset, .unset] [] by
    by_cases hc62 : (sel &&& (32 : Int32)) = (0 : Int32)
    ·
      refine OwnW.ifcY (pc' := 69) at_62 ((if0 _ _).trans (teq hc62).1) (by decide) (by decide) ?_
      exact J62_69 _ (by first | simp only [if_pos hc62] | rfl)
    ·
      refine OwnW.ifcN (pc' := 65) at_62 ((if0 _ _).trans (feq hc62).1) rfl ?_
      refine OwnW.lload (pc' := 67) at_65 rfl rfl ?_
      refine OwnW.lstore (pc' := 69) (L' := #[.val (.long a0_), .second, .val (.long b0_), .second, .val (.long c0_), .second, .val (.long d0_), .second, .val (.int sel), .val (.int pick), .val (.int n), .val (.long a0_), .second, .val (.long b), .second, .val (.long c), .second, .val (.long c), .second, .unset, .unset, .unset, .unset, .unset, .unset, .unset, .unset, .unset, .unset]) at_67 rfl rfl ?_
      exact J62_69 _ (by first | simp only [if_neg hc62] | rfl)
  intro d hd
  refine OwnW.iconst (pc' := 70) (v := (4 : Int32)) at_69 rfl rfl ?_
  refine OwnW.newP (a0 := a0) (pc' := 72) (cap := 4) (k' := 1) (n' := 4) at_70 (hw _ (List.mem_of_getElem? (i := 0) rfl)) (by decide) (by decide) (by decide) rfl rfl (by decide) (by decide) rfl ?_
  intro h1 kc1 ad1 g1 E1 A1
  have ge_ad1 : n0 ≤ ad1 := Nat.le_trans Z0 (Nat.le_of_eq g1.symm)
  have sz_ad1 : n0 ≤ h1.size := Nat.le_trans Z0 E1.1
  have V1 : Arv Z h1 ad1 kc1 .long (4 : Int32) [(.long (0 : Int64)), (.long (0 : Int64)), (.long (0 : Int64)), (.long (0 : Int64))] (.long (0 : Int64)) := (Arv.new A1 (by decide)).pad (pad_rep [] _ 4)
  refine OwnW.dup (pc' := 73) at_72 rfl rfl ?_
  refine OwnW.iconst (pc' := 74) (v := (0 : Int32)) at_73 rfl rfl ?_
  refine OwnW.lload (pc' := 76) at_74 rfl rfl ?_
  obtain ⟨cl2, Ar2, qk2, Sz2, Mn2, Hv2, Gf2⟩ := id V1
  refine OwnW.stJ (pc' := 77) at_76 Ar2 (inb_of Sz2 ⟨by decide, by decide⟩) ge_ad1 rfl ?_
  intro h2 W2
  have sz3 : n0 ≤ h2.size := (by rw [W2.size]; exact sz_ad1)
  have V2 : Arv Z h2 ad1 kc1 .long (4 : Int32) [(.long a0_), (.long (0 : Int64)), (.long (0 : Int64)), (.long (0 : Int64))] (.long (0 : Int64)) := Arv.set Ar2 qk2 Sz2 Mn2 Hv2 Gf2 rfl W2 0 rfl (Nat.le_of_ble_eq_true rfl)
  refine OwnW.dup (pc' := 78) at_77 rfl rfl ?_
  refine OwnW.iconst (pc' := 79) (v := (1 : Int32)) at_78 rfl rfl ?_
  refine OwnW.lload (pc' := 81) at_79 rfl rfl ?_
  obtain ⟨cl4, Ar4, qk4, Sz4, Mn4, Hv4, Gf4⟩ := id V2
  refine OwnW.stJ (pc' := 82) at_81 Ar4 (inb_of Sz4 ⟨by decide, by decide⟩) ge_ad1 rfl ?_
  intro h4 W4
  have sz5 : n0 ≤ h4.size := (by rw [W4.size]; exact sz3)
  have V4 : Arv Z h4 ad1 kc1 .long (4 : Int32) [(.long a0_), (.long b), (.long (0 : Int64)), (.long (0 : Int64))] (.long (0 : Int64)) := Arv.set Ar4 qk4 Sz4 Mn4 Hv4 Gf4 rfl W4 1 rfl (Nat.le_of_ble_eq_true rfl)
  refine OwnW.dup (pc' := 83) at_82 rfl rfl ?_
  refine OwnW.iconst (pc' := 84) (v := (2 : Int32)) at_83 rfl rfl ?_
  refine OwnW.lload (pc' := 86) at_84 rfl rfl ?_
  obtain ⟨cl6, Ar6, qk6, Sz6, Mn6, Hv6, Gf6⟩ := id V4
  refine OwnW.stJ (pc' := 87) at_86 Ar6 (inb_of Sz6 ⟨by decide, by decide⟩) ge_ad1 rfl ?_
  intro h6 W6
  have sz7 : n0 ≤ h6.size := (by rw [W6.size]; exact sz5)
  have V6 : Arv Z h6 ad1 kc1 .long (4 : Int32) [(.long a0_), (.long b), (.long c), (.long (0 : Int64))] (.long (0 : Int64)) := Arv.set Ar6 qk6 Sz6 Mn6 Hv6 Gf6 rfl W6 2 rfl (Nat.le_of_ble_eq_true rfl)
  refine OwnW.dup (pc' := 88) at_87 rfl rfl ?_
  refine OwnW.iconst (pc' := 89) (v := (3 : Int32)) at_88 rfl rfl ?_
  refine OwnW.lload (pc' := 91) at_89 rfl rfl ?_
  obtain ⟨cl8, Ar8, qk8, Sz8, Mn8, Hv8, Gf8⟩ := id V6
  refine OwnW.stJ (pc' := 92) at_91 Ar8 (inb_of Sz8 ⟨by decide, by decide⟩) ge_ad1 rfl ?_
  intro h8 W8
  have sz9 : n0 ≤ h8.size := (by rw [W8.size]; exact sz7)
  have V8 : Arv Z h8 ad1 kc1 .long (4 : Int32) [(.long a0_), (.long b), (.long c), (.long d)] (.long (0 : Int64)) := Arv.set Ar8 qk8 Sz8 Mn8 Hv8 Gf8 rfl W8 3 rfl (Nat.le_of_ble_eq_true rfl)
  refine OwnW.astore (pc' := 94) (L' := #[.val (.long a0_), .second, .val (.long b0_), .second, .val (.long c0_), .second, .val (.long d0_), .second, .val (.int sel), .val (.int pick), .val (.int n), .val (.long a0_), .second, .val (.long b), .second, .val (.long c), .second, .val (.long d), .second, .val (.ref ad1), .unset, .unset, .unset, .unset, .unset, .unset, .unset, .unset, .unset]) at_92 (rfl) rfl rfl ?_
  rcases (own_n hn) with rfl | rfl | rfl | rfl
  ·
    show GoB0 l Z n0 OwnW.One1 h8 1 4 94 #[.val (.long a0_), .second, .val (.long b0_), .second, .val (.long c0_), .second, .val (.long d0_), .second, .val (.int sel), .val (.int pick), .val (.int (1 : Int32)), .val (.long a0_), .second, .val (.long b), .second, .val (.long c), .second, .val (.long d), .second, .val (.ref ad1), .unset, .unset, .unset, .unset, .unset, .unset, .unset, .unset, .unset] []
    refine OwnW.iload (pc' := 96) at_94 rfl rfl ?_
    refine OwnW.newP (a0 := a0) (pc' := 98) (cap := 1) (k' := 2) (n' := 5) at_96 (hw _ (List.mem_of_getElem? (i := 0) rfl)) (by decide) (by decide) (by decide) rfl rfl (by decide) (by decide) rfl ?_
    intro h10 kc10 ad10 g10 E10 A10
    have lt_ad1_ad10 : @LT.lt Nat _ ad1 ad10 := Nat.lt_of_lt_of_le (V8).lt (Nat.le_of_eq g10.symm)
    have ge_ad10 : n0 ≤ ad10 := Nat.le_trans sz9 (Nat.le_of_eq g10.symm)
    have sz_ad10 : n0 ≤ h10.size := Nat.le_trans sz9 E10.1
    have V10 : Arv Z h10 ad10 kc10 .long (1 : Int32) [(.long (0 : Int64))] (.long (0 : Int64)) := (Arv.new A10 (by decide)).pad (pad_rep [] _ 1)
    refine OwnW.astore (pc' := 100) (L' := #[.val (.long a0_), .second, .val (.long b0_), .second, .val (.long c0_), .second, .val (.long d0_), .second, .val (.int sel), .val (.int pick), .val (.int (1 : Int32)), .val (.long a0_), .second, .val (.long b), .second, .val (.long c), .second, .val (.long d), .second, .val (.ref ad1), .val (.ref ad10), .unset, .unset, .unset, .unset, .unset, .unset, .unset, .unset]) at_98 (rfl) rfl rfl ?_
    refine OwnW.aload (pc' := 102) at_100 rfl (rfl) rfl ?_
    refine OwnW.iconst (pc' := 103) (v := (0 : Int32)) at_102 rfl rfl ?_
    refine OwnW.lload (pc' := 105) at_103 rfl rfl ?_
    obtain ⟨cl11, Ar11, qk11, Sz11, Mn11, Hv11, Gf11⟩ := id V10
    refine OwnW.stJ (pc' := 106) at_105 Ar11 (inb_of Sz11 ⟨by decide, by decide⟩) ge_ad10 rfl ?_
    intro h11 W11
    have sz12 : n0 ≤ h11.size := (by rw [W11.size]; exact sz_ad10)
    have V11 : Arv Z h11 ad10 kc10 .long (1 : Int32) [(.long a0_)] (.long (0 : Int64)) := Arv.set Ar11 qk11 Sz11 Mn11 Hv11 Gf11 rfl W11 0 rfl (Nat.le_of_ble_eq_true rfl)
    refine OwnW.iload (pc' := 108) at_106 rfl rfl ?_
    refine OwnW.iconst (pc' := 109) (v := (1 : Int32)) at_108 rfl rfl ?_
    refine OwnW.icmpY (pc' := 118) at_109 (flt (by decide)).2.2.2 (by decide) (by decide) ?_
    refine OwnW.iload (pc' := 120) at_118 rfl rfl ?_
    refine OwnW.iconst (pc' := 121) (v := (2 : Int32)) at_120 rfl rfl ?_
    refine OwnW.icmpY (pc' := 130) at_121 (flt (by decide)).2.2.2 (by decide) (by decide) ?_
    refine OwnW.iload (pc' := 132) at_130 rfl rfl ?_
    refine OwnW.iconst (pc' := 133) (v := (3 : Int32)) at_132 rfl rfl ?_
    refine OwnW.icmpY (pc' := 142) at_133 (flt (by decide)).2.2.2 (by decide) (by decide) ?_
    refine OwnW.iload (pc' := 144) at_142 rfl rfl ?_
    refine OwnW.ldcI (a0 := a0) (pc' := 146) (v := (2147483647 : Int32)) at_144 (hw _ (List.mem_of_getElem? (i := 1) rfl)) rfl ?_
    refine OwnW.iand (pc' := 147) at_146 rfl ?_
    refine OwnW.iload (pc' := 149) at_147 rfl rfl ?_
    refine OwnW.iconst (pc' := 150) (v := (1 : Int32)) at_149 rfl rfl ?_
    refine OwnW.iadd (pc' := 151) at_150 rfl ?_
    show GoB0 l Z n0 OwnW.One1 h11 2 5 151 #[.val (.long a0_), .second, .val (.long b0_), .second, .val (.long c0_), .second, .val (.long d0_), .second, .val (.int sel), .val (.int pick), .val (.int (1 : Int32)), .val (.long a0_), .second, .val (.long b), .second, .val (.long c), .second, .val (.long d), .second, .val (.ref ad1), .val (.ref ad10), .unset, .unset, .unset, .unset, .unset, .unset, .unset, .unset] [(.int (2 : Int32)), (.int (pick &&& (2147483647 : Int32)))]
    refine OwnW.irem (pc' := 152) at_151 (by decide) rfl ?_
    refine OwnW.iconst (pc' := 153) (v := (1 : Int32)) at_152 rfl rfl ?_
    refine OwnW.isub (pc' := 154) at_153 rfl ?_
    obtain ⟨pr, hpr⟩ : ∃ z, z = (((pick &&& (2147483647 : Int32)) % (2 : Int32)) - (1 : Int32)) := ⟨_, rfl⟩
    rw [← hpr]
    show GoB0 l Z n0 OwnW.One1 h11 2 5 154 #[.val (.long a0_), .second, .val (.long b0_), .second, .val (.long c0_), .second, .val (.long d0_), .second, .val (.int sel), .val (.int pick), .val (.int (1 : Int32)), .val (.long a0_), .second, .val (.long b), .second, .val (.long c), .second, .val (.long d), .second, .val (.ref ad1), .val (.ref ad10), .unset, .unset, .unset, .unset, .unset, .unset, .unset, .unset] [(.int pr)]
    refine OwnW.istore (pc' := 156) (L' := #[.val (.long a0_), .second, .val (.long b0_), .second, .val (.long c0_), .second, .val (.long d0_), .second, .val (.int sel), .val (.int pick), .val (.int (1 : Int32)), .val (.long a0_), .second, .val (.long b), .second, .val (.long c), .second, .val (.long d), .second, .val (.ref ad1), .val (.ref ad10), .val (.int pr), .unset, .unset, .unset, .unset, .unset, .unset, .unset]) at_154 rfl rfl ?_
    rcases (own_pr1 hpr) with rfl | rfl
    ·
      show GoB0 l Z n0 OwnW.One1 h11 2 5 156 #[.val (.long a0_), .second, .val (.long b0_), .second, .val (.long c0_), .second, .val (.long d0_), .second, .val (.int sel), .val (.int pick), .val (.int (1 : Int32)), .val (.long a0_), .second, .val (.long b), .second, .val (.long c), .second, .val (.long d), .second, .val (.ref ad1), .val (.ref ad10), .val (.int (-1 : Int32)), .unset, .unset, .unset, .unset, .unset, .unset, .unset] []
      refine OwnW.lload (pc' := 158) at_156 rfl rfl ?_
      refine OwnW.lstore (pc' := 160) (L' := #[.val (.long a0_), .second, .val (.long b0_), .second, .val (.long c0_), .second, .val (.long d0_), .second, .val (.int sel), .val (.int pick), .val (.int (1 : Int32)), .val (.long a0_), .second, .val (.long b), .second, .val (.long c), .second, .val (.long d), .second, .val (.ref ad1), .val (.ref ad10), .val (.int (-1 : Int32)), .val (.long a0_), .second, .unset, .unset, .unset, .unset, .unset]) at_158 rfl rfl ?_
      refine OwnW.iload (pc' := 162) at_160 rfl rfl ?_
      refine OwnW.iconst (pc' := 163) (v := (1 : Int32)) at_162 rfl rfl ?_
      refine OwnW.icmpY (pc' := 175) at_163 (flt (by decide)).2.2.2 (by decide) (by decide) ?_
      refine OwnW.iload (pc' := 177) at_175 rfl rfl ?_
      refine OwnW.iconst (pc' := 178) (v := (2 : Int32)) at_177 rfl rfl ?_
      refine OwnW.icmpY (pc' := 190) at_178 (flt (by decide)).2.2.2 (by decide) (by decide) ?_
      refine OwnW.iload (pc' := 192) at_190 rfl rfl ?_
      refine OwnW.iconst (pc' := 193) (v := (3 : Int32)) at_192 rfl rfl ?_
      refine OwnW.icmpY (pc' := 205) at_193 (flt (by decide)).2.2.2 (by decide) (by decide) ?_
      refine OwnW.lload (pc' := 207) at_205 rfl rfl ?_
      refine OwnW.lload (pc' := 209) at_207 rfl rfl ?_
      refine OwnW.lcmp (pc' := 210) at_209 rfl ?_
      suffices J210_250 : ∀ (fi : Int32), fi = (if (lcmpW a0_ a0_) = (0 : Int32) then (0 : Int32) else (if (lcmpW b a0_) = (0 : Int32) then (1 : Int32) else (if (lcmpW c a0_) = (0 : Int32) then (2 : Int32) else (3 : Int32)))) → GoB0 l Z n0 OwnW.One1 h11 2 5 250 #[.val (.long a0_), .second, .val (.long b0_), .second, .val (.long c0_), .second, .val (.long d0_), .second, .val (.int sel), .val (.int pick), .val (.int (1 : Int32)), .val (.long a0_), .second, .val (.long b), .second, .val (.long c), .second, .val (.long d), .second, .val (.ref ad1), .val (.ref ad10), .val (.int (-1 : Int32)), .val (.long a0_), .second, .val (.int fi), .unset, .unset, .unset, .unset] [] by
        by_cases hc210 : (lcmpW a0_ a0_) = (0 : Int32)
        ·
          refine OwnW.ifcN (pc' := 213) at_210 ((if0 _ _).trans (teq hc210).2) rfl ?_
          refine OwnW.iconst (pc' := 214) (v := (0 : Int32)) at_213 rfl rfl ?_
          refine OwnW.istore (pc' := 216) (L' := #[.val (.long a0_), .second, .val (.long b0_), .second, .val (.long c0_), .second, .val (.long d0_), .second, .val (.int sel), .val (.int pick), .val (.int (1 : Int32)), .val (.long a0_), .second, .val (.long b), .second, .val (.long c), .second, .val (.long d), .second, .val (.ref ad1), .val (.ref ad10), .val (.int (-1 : Int32)), .val (.long a0_), .second, .val (.int (0 : Int32)), .unset, .unset, .unset, .unset]) at_214 rfl rfl ?_
          refine OwnW.goto (pc' := 250) at_216 (by decide) (by decide) ?_
          exact J210_250 _ (by first | simp only [if_pos hc210] | rfl)
        ·
          refine OwnW.ifcY (pc' := 219) at_210 ((if0 _ _).trans (feq hc210).2) (by decide) (by decide) ?_
          refine OwnW.lload (pc' := 221) at_219 rfl rfl ?_
          refine OwnW.lload (pc' := 223) at_221 rfl rfl ?_
          refine OwnW.lcmp (pc' := 224) at_223 rfl ?_
          by_cases hc224 : (lcmpW b a0_) = (0 : Int32)
          ·
            refine OwnW.ifcN (pc' := 227) at_224 ((if0 _ _).trans (teq hc224).2) rfl ?_
            refine OwnW.iconst (pc' := 228) (v := (1 : Int32)) at_227 rfl rfl ?_
            refine OwnW.istore (pc' := 230) (L' := #[.val (.long a0_), .second, .val (.long b0_), .second, .val (.long c0_), .second, .val (.long d0_), .second, .val (.int sel), .val (.int pick), .val (.int (1 : Int32)), .val (.long a0_), .second, .val (.long b), .second, .val (.long c), .second, .val (.long d), .second, .val (.ref ad1), .val (.ref ad10), .val (.int (-1 : Int32)), .val (.long a0_), .second, .val (.int (1 : Int32)), .unset, .unset, .unset, .unset]) at_228 rfl rfl ?_
            refine OwnW.goto (pc' := 250) at_230 (by decide) (by decide) ?_
            exact J210_250 _ (by first | simp only [if_neg hc210, if_pos hc224] | rfl)
          ·
            refine OwnW.ifcY (pc' := 233) at_224 ((if0 _ _).trans (feq hc224).2) (by decide) (by decide) ?_
            refine OwnW.lload (pc' := 235) at_233 rfl rfl ?_
            refine OwnW.lload (pc' := 237) at_235 rfl rfl ?_
            refine OwnW.lcmp (pc' := 238) at_237 rfl ?_
            by_cases hc238 : (lcmpW c a0_) = (0 : Int32)
            ·
              refine OwnW.ifcN (pc' := 241) at_238 ((if0 _ _).trans (teq hc238).2) rfl ?_
              refine OwnW.iconst (pc' := 242) (v := (2 : Int32)) at_241 rfl rfl ?_
              refine OwnW.istore (pc' := 244) (L' := #[.val (.long a0_), .second, .val (.long b0_), .second, .val (.long c0_), .second, .val (.long d0_), .second, .val (.int sel), .val (.int pick), .val (.int (1 : Int32)), .val (.long a0_), .second, .val (.long b), .second, .val (.long c), .second, .val (.long d), .second, .val (.ref ad1), .val (.ref ad10), .val (.int (-1 : Int32)), .val (.long a0_), .second, .val (.int (2 : Int32)), .unset, .unset, .unset, .unset]) at_242 rfl rfl ?_
              refine OwnW.goto (pc' := 250) at_244 (by decide) (by decide) ?_
              exact J210_250 _ (by first | simp only [if_neg hc210, if_neg hc224, if_pos hc238] | rfl)
            ·
              refine OwnW.ifcY (pc' := 247) at_238 ((if0 _ _).trans (feq hc238).2) (by decide) (by decide) ?_
              refine OwnW.iconst (pc' := 248) (v := (3 : Int32)) at_247 rfl rfl ?_
              refine OwnW.istore (pc' := 250) (L' := #[.val (.long a0_), .second, .val (.long b0_), .second, .val (.long c0_), .second, .val (.long d0_), .second, .val (.int sel), .val (.int pick), .val (.int (1 : Int32)), .val (.long a0_), .second, .val (.long b), .second, .val (.long c), .second, .val (.long d), .second, .val (.ref ad1), .val (.ref ad10), .val (.int (-1 : Int32)), .val (.long a0_), .second, .val (.int (3 : Int32)), .unset, .unset, .unset, .unset]) at_248 rfl rfl ?_
              exact J210_250 _ (by first | simp only [if_neg hc210, if_neg hc224, if_neg hc238] | rfl)
      intro fi hfi
      refine OwnW.iload (pc' := 252) at_250 rfl rfl ?_
      refine OwnW.ifcY (pc' := 270) at_252 ((if0 _ _).trans (tlt (by decide)).1) (by decide) (by decide) ?_
      refine OwnW.iconst (pc' := 271) (v := (0 : Int32)) at_270 rfl rfl ?_
      refine OwnW.istore (pc' := 273) (L' := #[.val (.long a0_), .second, .val (.long b0_), .second, .val (.long c0_), .second, .val (.long d0_), .second, .val (.int sel), .val (.int pick), .val (.int (1 : Int32)), .val (.long a0_), .second, .val (.long b), .second, .val (.long c), .second, .val (.long d), .second, .val (.ref ad1), .val (.ref ad10), .val (.int (-1 : Int32)), .val (.long a0_), .second, .val (.int fi), .val (.int (0 : Int32)), .unset, .unset, .unset]) at_271 rfl rfl ?_
      refine OwnW.iload (pc' := 275) at_273 rfl rfl ?_
      refine OwnW.ifcY (pc' := 283) at_275 ((if0 _ _).trans (teq (by decide)).1) (by decide) (by decide) ?_
      refine OwnW.iload (pc' := 285) at_283 rfl rfl ?_
      refine OwnW.istore (pc' := 287) (L' := #[.val (.long a0_), .second, .val (.long b0_), .second, .val (.long c0_), .second, .val (.long d0_), .second, .val (.int sel), .val (.int pick), .val (.int (1 : Int32)), .val (.long a0_), .second, .val (.long b), .second, .val (.long c), .second, .val (.long d), .second, .val (.ref ad1), .val (.ref ad10), .val (.int (-1 : Int32)), .val (.long a0_), .second, .val (.int fi), .val (.int (0 : Int32)), .val (.int fi), .unset, .unset]) at_285 rfl rfl ?_
      refine OwnW.aload (pc' := 289) at_287 rfl (rfl) rfl ?_
      refine OwnW.iload (pc' := 291) at_289 rfl rfl ?_
      refine OwnW.callS0 (a0 := a0) (pc' := 294) (W := 0) (k' := 2) (n' := 5) (argsL := [(.ref ad10), (.int (-1 : Int32))]) (rest := []) (St' := [(.int (f2_1_0 ad10 kc10 a0_))]) at_291 (hw _ (List.mem_of_getElem? (i := 6) rfl)) (hw _ (List.mem_of_getElem? (i := 7) rfl)) (hw _ (List.mem_of_getElem? (i := 8) rfl)) (hw _ (List.mem_of_getElem? (i := 9) rfl)) (by decide) (rm2_1_0 l Z a0 hw ad10 kc10 a0_ h11 n0 V11) (by decide) (by decide) rfl rfl (by decide) (by decide) rfl pd_285bJI29I rfl rfl rfl (Nat.le_of_ble_eq_true rfl) rfl rfl ?_
      refine OwnW.istore (pc' := 296) (L' := #[.val (.long a0_), .second, .val (.long b0_), .second, .val (.long c0_), .second, .val (.long d0_), .second, .val (.int sel), .val (.int pick), .val (.int (1 : Int32)), .val (.long a0_), .second, .val (.long b), .second, .val (.long c), .second, .val (.long d), .second, .val (.ref ad1), .val (.ref ad10), .val (.int (-1 : Int32)), .val (.long a0_), .second, .val (.int fi), .val (.int (0 : Int32)), .val (.int fi), .val (.int (f2_1_0 ad10 kc10 a0_)), .unset]) at_294 rfl rfl ?_
      refine OwnW.aload (pc' := 298) at_296 rfl (rfl) rfl ?_
      refine OwnW.iconst (pc' := 299) (v := (0 : Int32)) at_298 rfl rfl ?_
      obtain ⟨cl13, Ar13, qk13, Sz13, Mn13, Hv13, Gf13⟩ := id V11
      refine OwnW.laload (pc' := 300) (v := (.long a0_)) at_299 Ar13 (inb_of Sz13 ⟨by decide, by decide⟩) (Hv13.at (inb_of Sz13 ⟨by decide, by decide⟩) rfl) rfl ?_
      refine OwnW.lload (pc' := 302) at_300 rfl rfl ?_
      refine OwnW.lcmp (pc' := 303) at_302 rfl ?_
      refine OwnW.ifcN (pc' := 306) at_303 ((if0 _ _).trans (teq ((lw_eq _ _).mpr rfl)).2) rfl ?_
      refine OwnW.iconst (pc' := 307) (v := (1 : Int32)) at_306 rfl rfl ?_
      refine OwnW.goto (pc' := 311) at_307 (by decide) (by decide) ?_
      refine OwnW.istore (pc' := 313) (L' := #[.val (.long a0_), .second, .val (.long b0_), .second, .val (.long c0_), .second, .val (.long d0_), .second, .val (.int sel), .val (.int pick), .val (.int (1 : Int32)), .val (.long a0_), .second, .val (.long b), .second, .val (.long c), .second, .val (.long d), .second, .val (.ref ad1), .val (.ref ad10), .val (.int (-1 : Int32)), .val (.long a0_), .second, .val (.int fi), .val (.int (0 : Int32)), .val (.int fi), .val (.int (f2_1_0 ad10 kc10 a0_)), .val (.int (1 : Int32))]) at_311 rfl rfl ?_
      refine OwnW.iload (pc' := 315) at_313 rfl rfl ?_
      refine OwnW.iconst (pc' := 316) (v := (1 : Int32)) at_315 rfl rfl ?_
      refine OwnW.icmpY (pc' := 341) at_316 (flt (by decide)).2.2.2 (by decide) (by decide) ?_
      refine OwnW.iload (pc' := 343) at_341 rfl rfl ?_
      refine OwnW.iconst (pc' := 344) (v := (2 : Int32)) at_343 rfl rfl ?_
      refine OwnW.icmpY (pc' := 369) at_344 (flt (by decide)).2.2.2 (by decide) (by decide) ?_
      refine OwnW.iload (pc' := 371) at_369 rfl rfl ?_
      refine OwnW.iconst (pc' := 372) (v := (3 : Int32)) at_371 rfl rfl ?_
      refine OwnW.icmpY (pc' := 397) at_372 (flt (by decide)).2.2.2 (by decide) (by decide) ?_
      refine OwnW.iload (pc' := 399) at_397 rfl rfl ?_
      refine OwnW.iload (pc' := 401) at_399 rfl rfl ?_
      by_cases hc401 : (f2_1_0 ad10 kc10 a0_) = fi
      ·
        refine OwnW.icmpN (pc' := 404) at_401 (teq hc401).2 rfl ?_
        refine OwnW.iload (pc' := 406) at_404 rfl rfl ?_
        refine OwnW.ifcN (pc' := 409) at_406 ((if0 _ _).trans (feq (by decide)).1) rfl ?_
        refine OwnW.iconst (pc' := 410) (v := (1 : Int32)) at_409 rfl rfl ?_
        refine OwnW.goto (pc' := 414) at_410 (by decide) (by decide) ?_
        exact OwnW.retN (t := .boolean) at_414 rfl (by simp) rfl (by decide) (by decide) (rfl)
      ·
        refine OwnW.icmpY (pc' := 413) at_401 (feq hc401).2 (by decide) (by decide) ?_
        refine OwnW.iconst (pc' := 414) (v := (0 : Int32)) at_413 rfl rfl ?_
        exact OwnW.retN (t := .boolean) at_414 rfl (by simp) rfl (by decide) (by decide) (absurd (own_law1_0 (d := d) hfi ) hc401)
    ·
      show GoB0 l Z n0 OwnW.One1 h11 2 5 156 #[.val (.long a0_), .second, .val (.long b0_), .second, .val (.long c0_), .second, .val (.long d0_), .second, .val (.int sel), .val (.int pick), .val (.int (1 : Int32)), .val (.long a0_), .second, .val (.long b), .second, .val (.long c), .second, .val (.long d), .second, .val (.ref ad1), .val (.ref ad10), .val (.int (0 : Int32)), .unset, .unset, .unset, .unset, .unset, .unset, .unset] []
      refine OwnW.lload (pc' := 158) at_156 rfl rfl ?_
      refine OwnW.lstore (pc' := 160) (L' := #[.val (.long a0_), .second, .val (.long b0_), .second, .val (.long c0_), .second, .val (.long d0_), .second, .val (.int sel), .val (.int pick), .val (.int (1 : Int32)), .val (.long a0_), .second, .val (.long b), .second, .val (.long c), .second, .val (.long d), .second, .val (.ref ad1), .val (.ref ad10), .val (.int (0 : Int32)), .val (.long a0_), .second, .unset, .unset, .unset, .unset, .unset]) at_158 rfl rfl ?_
      refine OwnW.iload (pc' := 162) at_160 rfl rfl ?_
      refine OwnW.iconst (pc' := 163) (v := (1 : Int32)) at_162 rfl rfl ?_
      refine OwnW.icmpY (pc' := 175) at_163 (flt (by decide)).2.2.2 (by decide) (by decide) ?_
      refine OwnW.iload (pc' := 177) at_175 rfl rfl ?_
      refine OwnW.iconst (pc' := 178) (v := (2 : Int32)) at_177 rfl rfl ?_
      refine OwnW.icmpY (pc' := 190) at_178 (flt (by decide)).2.2.2 (by decide) (by decide) ?_
      refine OwnW.iload (pc' := 192) at_190 rfl rfl ?_
      refine OwnW.iconst (pc' := 193) (v := (3 : Int32)) at_192 rfl rfl ?_
      refine OwnW.icmpY (pc' := 205) at_193 (flt (by decide)).2.2.2 (by decide) (by decide) ?_
      refine OwnW.lload (pc' := 207) at_205 rfl rfl ?_
      refine OwnW.lload (pc' := 209) at_207 rfl rfl ?_
      refine OwnW.lcmp (pc' := 210) at_209 rfl ?_
      suffices J210_250 : ∀ (fi : Int32), fi = (if (lcmpW a0_ a0_) = (0 : Int32) then (0 : Int32) else (if (lcmpW b a0_) = (0 : Int32) then (1 : Int32) else (if (lcmpW c a0_) = (0 : Int32) then (2 : Int32) else (3 : Int32)))) → GoB0 l Z n0 OwnW.One1 h11 2 5 250 #[.val (.long a0_), .second, .val (.long b0_), .second, .val (.long c0_), .second, .val (.long d0_), .second, .val (.int sel), .val (.int pick), .val (.int (1 : Int32)), .val (.long a0_), .second, .val (.long b), .second, .val (.long c), .second, .val (.long d), .second, .val (.ref ad1), .val (.ref ad10), .val (.int (0 : Int32)), .val (.long a0_), .second, .val (.int fi), .unset, .unset, .unset, .unset] [] by
        by_cases hc210 : (lcmpW a0_ a0_) = (0 : Int32)
        ·
          refine OwnW.ifcN (pc' := 213) at_210 ((if0 _ _).trans (teq hc210).2) rfl ?_
          refine OwnW.iconst (pc' := 214) (v := (0 : Int32)) at_213 rfl rfl ?_
          refine OwnW.istore (pc' := 216) (L' := #[.val (.long a0_), .second, .val (.long b0_), .second, .val (.long c0_), .second, .val (.long d0_), .second, .val (.int sel), .val (.int pick), .val (.int (1 : Int32)), .val (.long a0_), .second, .val (.long b), .second, .val (.long c), .second, .val (.long d), .second, .val (.ref ad1), .val (.ref ad10), .val (.int (0 : Int32)), .val (.long a0_), .second, .val (.int (0 : Int32)), .unset, .unset, .unset, .unset]) at_214 rfl rfl ?_
          refine OwnW.goto (pc' := 250) at_216 (by decide) (by decide) ?_
          exact J210_250 _ (by first | simp only [if_pos hc210] | rfl)
        ·
          refine OwnW.ifcY (pc' := 219) at_210 ((if0 _ _).trans (feq hc210).2) (by decide) (by decide) ?_
          refine OwnW.lload (pc' := 221) at_219 rfl rfl ?_
          refine OwnW.lload (pc' := 223) at_221 rfl rfl ?_
          refine OwnW.lcmp (pc' := 224) at_223 rfl ?_
          by_cases hc224 : (lcmpW b a0_) = (0 : Int32)
          ·
            refine OwnW.ifcN (pc' := 227) at_224 ((if0 _ _).trans (teq hc224).2) rfl ?_
            refine OwnW.iconst (pc' := 228) (v := (1 : Int32)) at_227 rfl rfl ?_
            refine OwnW.istore (pc' := 230) (L' := #[.val (.long a0_), .second, .val (.long b0_), .second, .val (.long c0_), .second, .val (.long d0_), .second, .val (.int sel), .val (.int pick), .val (.int (1 : Int32)), .val (.long a0_), .second, .val (.long b), .second, .val (.long c), .second, .val (.long d), .second, .val (.ref ad1), .val (.ref ad10), .val (.int (0 : Int32)), .val (.long a0_), .second, .val (.int (1 : Int32)), .unset, .unset, .unset, .unset]) at_228 rfl rfl ?_
            refine OwnW.goto (pc' := 250) at_230 (by decide) (by decide) ?_
            exact J210_250 _ (by first | simp only [if_neg hc210, if_pos hc224] | rfl)
          ·
            refine OwnW.ifcY (pc' := 233) at_224 ((if0 _ _).trans (feq hc224).2) (by decide) (by decide) ?_
            refine OwnW.lload (pc' := 235) at_233 rfl rfl ?_
            refine OwnW.lload (pc' := 237) at_235 rfl rfl ?_
            refine OwnW.lcmp (pc' := 238) at_237 rfl ?_
            by_cases hc238 : (lcmpW c a0_) = (0 : Int32)
            ·
              refine OwnW.ifcN (pc' := 241) at_238 ((if0 _ _).trans (teq hc238).2) rfl ?_
              refine OwnW.iconst (pc' := 242) (v := (2 : Int32)) at_241 rfl rfl ?_
              refine OwnW.istore (pc' := 244) (L' := #[.val (.long a0_), .second, .val (.long b0_), .second, .val (.long c0_), .second, .val (.long d0_), .second, .val (.int sel), .val (.int pick), .val (.int (1 : Int32)), .val (.long a0_), .second, .val (.long b), .second, .val (.long c), .second, .val (.long d), .second, .val (.ref ad1), .val (.ref ad10), .val (.int (0 : Int32)), .val (.long a0_), .second, .val (.int (2 : Int32)), .unset, .unset, .unset, .unset]) at_242 rfl rfl ?_
              refine OwnW.goto (pc' := 250) at_244 (by decide) (by decide) ?_
              exact J210_250 _ (by first | simp only [if_neg hc210, if_neg hc224, if_pos hc238] | rfl)
            ·
              refine OwnW.ifcY (pc' := 247) at_238 ((if0 _ _).trans (feq hc238).2) (by decide) (by decide) ?_
              refine OwnW.iconst (pc' := 248) (v := (3 : Int32)) at_247 rfl rfl ?_
              refine OwnW.istore (pc' := 250) (L' := #[.val (.long a0_), .second, .val (.long b0_), .second, .val (.long c0_), .second, .val (.long d0_), .second, .val (.int sel), .val (.int pick), .val (.int (1 : Int32)), .val (.long a0_), .second, .val (.long b), .second, .val (.long c), .second, .val (.long d), .second, .val (.ref ad1), .val (.ref ad10), .val (.int (0 : Int32)), .val (.long a0_), .second, .val (.int (3 : Int32)), .unset, .unset, .unset, .unset]) at_248 rfl rfl ?_
              exact J210_250 _ (by first | simp only [if_neg hc210, if_neg hc224, if_neg hc238] | rfl)
      intro fi hfi
      refine OwnW.iload (pc' := 252) at_250 rfl rfl ?_
      refine OwnW.ifcN (pc' := 255) at_252 ((if0 _ _).trans (flt (by decide)).1) rfl ?_
      refine OwnW.aload (pc' := 257) at_255 rfl (rfl) rfl ?_
      refine OwnW.iload (pc' := 259) at_257 rfl rfl ?_
      have F14 := ((V8.ext E10).other W11 (Nat.ne_of_lt lt_ad1_ad10))
      obtain ⟨cl15, Ar15, qk15, Sz15, Mn15, Hv15, Gf15⟩ := id F14
      refine OwnW.laload (pc' := 260) (v := (.long a0_)) at_259 Ar15 (inb_of Sz15 ⟨by decide, by decide⟩) (Hv15.at (inb_of Sz15 ⟨by decide, by decide⟩) rfl) rfl ?_
      refine OwnW.lload (pc' := 262) at_260 rfl rfl ?_
      refine OwnW.lcmp (pc' := 263) at_262 rfl ?_
      suffices J263_271 : ∀ (kp : Int32), kp = (if (lcmpW a0_ a0_) = (0 : Int32) then (1 : Int32) else (0 : Int32)) → GoB0 l Z n0 OwnW.One1 h11 2 5 271 #[.val (.long a0_), .second, .val (.long b0_), .second, .val (.long c0_), .second, .val (.long d0_), .second, .val (.int sel), .val (.int pick), .val (.int (1 : Int32)), .val (.long a0_), .second, .val (.long b), .second, .val (.long c), .second, .val (.long d), .second, .val (.ref ad1), .val (.ref ad10), .val (.int (0 : Int32)), .val (.long a0_), .second, .val (.int fi), .unset, .unset, .unset, .unset] [(.int kp)] by
        by_cases hc263 : (lcmpW a0_ a0_) = (0 : Int32)
        ·
          refine OwnW.ifcN (pc' := 266) at_263 ((if0 _ _).trans (teq hc263).2) rfl ?_
          refine OwnW.iconst (pc' := 267) (v := (1 : Int32)) at_266 rfl rfl ?_
          refine OwnW.goto (pc' := 271) at_267 (by decide) (by decide) ?_
          exact J263_271 _ (by first | simp only [if_pos hc263] | rfl)
        ·
          refine OwnW.ifcY (pc' := 270) at_263 ((if0 _ _).trans (feq hc263).2) (by decide) (by decide) ?_
          refine OwnW.iconst (pc' := 271) (v := (0 : Int32)) at_270 rfl rfl ?_
          exact J263_271 _ (by first | simp only [if_neg hc263] | rfl)
      intro kp hkp
      refine OwnW.istore (pc' := 273) (L' := #[.val (.long a0_), .second, .val (.long b0_), .second, .val (.long c0_), .second, .val (.long d0_), .second, .val (.int sel), .val (.int pick), .val (.int (1 : Int32)), .val (.long a0_), .second, .val (.long b), .second, .val (.long c), .second, .val (.long d), .second, .val (.ref ad1), .val (.ref ad10), .val (.int (0 : Int32)), .val (.long a0_), .second, .val (.int fi), .val (.int kp), .unset, .unset, .unset]) at_271 rfl rfl ?_
      refine OwnW.iload (pc' := 275) at_273 rfl rfl ?_
      suffices J275_285 : ∀ (ex : Int32), ex = (if kp = (0 : Int32) then fi else (0 : Int32)) → GoB0 l Z n0 OwnW.One1 h11 2 5 285 #[.val (.long a0_), .second, .val (.long b0_), .second, .val (.long c0_), .second, .val (.long d0_), .second, .val (.int sel), .val (.int pick), .val (.int (1 : Int32)), .val (.long a0_), .second, .val (.long b), .second, .val (.long c), .second, .val (.long d), .second, .val (.ref ad1), .val (.ref ad10), .val (.int (0 : Int32)), .val (.long a0_), .second, .val (.int fi), .val (.int kp), .unset, .unset, .unset] [(.int ex)] by
        by_cases hc275 : kp = (0 : Int32)
        ·
          refine OwnW.ifcY (pc' := 283) at_275 ((if0 _ _).trans (teq hc275).1) (by decide) (by decide) ?_
          refine OwnW.iload (pc' := 285) at_283 rfl rfl ?_
          exact J275_285 _ (by first | simp only [if_pos hc275] | rfl)
        ·
          refine OwnW.ifcN (pc' := 278) at_275 ((if0 _ _).trans (feq hc275).1) rfl ?_
          refine OwnW.iload (pc' := 280) at_278 rfl rfl ?_
          refine OwnW.goto (pc' := 285) at_280 (by decide) (by decide) ?_
          exact J275_285 _ (by first | simp only [if_neg hc275] | rfl)
      intro ex hex
      refine OwnW.istore (pc' := 287) (L' := #[.val (.long a0_), .second, .val (.long b0_), .second, .val (.long c0_), .second, .val (.long d0_), .second, .val (.int sel), .val (.int pick), .val (.int (1 : Int32)), .val (.long a0_), .second, .val (.long b), .second, .val (.long c), .second, .val (.long d), .second, .val (.ref ad1), .val (.ref ad10), .val (.int (0 : Int32)), .val (.long a0_), .second, .val (.int fi), .val (.int kp), .val (.int ex), .unset, .unset]) at_285 rfl rfl ?_
      refine OwnW.aload (pc' := 289) at_287 rfl (rfl) rfl ?_
      refine OwnW.iload (pc' := 291) at_289 rfl rfl ?_
      refine OwnW.callS0 (a0 := a0) (pc' := 294) (W := 0) (k' := 2) (n' := 5) (argsL := [(.ref ad10), (.int (0 : Int32))]) (rest := []) (St' := [(.int (f2_1_1 ad10 kc10 a0_))]) at_291 (hw _ (List.mem_of_getElem? (i := 6) rfl)) (hw _ (List.mem_of_getElem? (i := 7) rfl)) (hw _ (List.mem_of_getElem? (i := 8) rfl)) (hw _ (List.mem_of_getElem? (i := 9) rfl)) (by decide) (rm2_1_1 l Z a0 hw ad10 kc10 a0_ h11 n0 V11) (by decide) (by decide) rfl rfl (by decide) (by decide) rfl pd_285bJI29I rfl rfl rfl (Nat.le_of_ble_eq_true rfl) rfl rfl ?_
      refine OwnW.istore (pc' := 296) (L' := #[.val (.long a0_), .second, .val (.long b0_), .second, .val (.long c0_), .second, .val (.long d0_), .second, .val (.int sel), .val (.int pick), .val (.int (1 : Int32)), .val (.long a0_), .second, .val (.long b), .second, .val (.long c), .second, .val (.long d), .second, .val (.ref ad1), .val (.ref ad10), .val (.int (0 : Int32)), .val (.long a0_), .second, .val (.int fi), .val (.int kp), .val (.int ex), .val (.int (f2_1_1 ad10 kc10 a0_)), .unset]) at_294 rfl rfl ?_
      refine OwnW.aload (pc' := 298) at_296 rfl (rfl) rfl ?_
      refine OwnW.iconst (pc' := 299) (v := (0 : Int32)) at_298 rfl rfl ?_
      obtain ⟨cl16, Ar16, qk16, Sz16, Mn16, Hv16, Gf16⟩ := id V11
      refine OwnW.laload (pc' := 300) (v := (.long a0_)) at_299 Ar16 (inb_of Sz16 ⟨by decide, by decide⟩) (Hv16.at (inb_of Sz16 ⟨by decide, by decide⟩) rfl) rfl ?_
      refine OwnW.lload (pc' := 302) at_300 rfl rfl ?_
      refine OwnW.lcmp (pc' := 303) at_302 rfl ?_
      refine OwnW.ifcN (pc' := 306) at_303 ((if0 _ _).trans (teq ((lw_eq _ _).mpr rfl)).2) rfl ?_
      refine OwnW.iconst (pc' := 307) (v := (1 : Int32)) at_306 rfl rfl ?_
      refine OwnW.goto (pc' := 311) at_307 (by decide) (by decide) ?_
      refine OwnW.istore (pc' := 313) (L' := #[.val (.long a0_), .second, .val (.long b0_), .second, .val (.long c0_), .second, .val (.long d0_), .second, .val (.int sel), .val (.int pick), .val (.int (1 : Int32)), .val (.long a0_), .second, .val (.long b), .second, .val (.long c), .second, .val (.long d), .second, .val (.ref ad1), .val (.ref ad10), .val (.int (0 : Int32)), .val (.long a0_), .second, .val (.int fi), .val (.int kp), .val (.int ex), .val (.int (f2_1_1 ad10 kc10 a0_)), .val (.int (1 : Int32))]) at_311 rfl rfl ?_
      refine OwnW.iload (pc' := 315) at_313 rfl rfl ?_
      refine OwnW.iconst (pc' := 316) (v := (1 : Int32)) at_315 rfl rfl ?_
      refine OwnW.icmpY (pc' := 341) at_316 (flt (by decide)).2.2.2 (by decide) (by decide) ?_
      refine OwnW.iload (pc' := 343) at_341 rfl rfl ?_
      refine OwnW.iconst (pc' := 344) (v := (2 : Int32)) at_343 rfl rfl ?_
      refine OwnW.icmpY (pc' := 369) at_344 (flt (by decide)).2.2.2 (by decide) (by decide) ?_
      refine OwnW.iload (pc' := 371) at_369 rfl rfl ?_
      refine OwnW.iconst (pc' := 372) (v := (3 : Int32)) at_371 rfl rfl ?_
      refine OwnW.icmpY (pc' := 397) at_372 (flt (by decide)).2.2.2 (by decide) (by decide) ?_
      refine OwnW.iload (pc' := 399) at_397 rfl rfl ?_
      refine OwnW.iload (pc' := 401) at_399 rfl rfl ?_
      by_cases hc401 : (f2_1_1 ad10 kc10 a0_) = ex
      ·
        refine OwnW.icmpN (pc' := 404) at_401 (teq hc401).2 rfl ?_
        refine OwnW.iload (pc' := 406) at_404 rfl rfl ?_
        refine OwnW.ifcN (pc' := 409) at_406 ((if0 _ _).trans (feq (by decide)).1) rfl ?_
        refine OwnW.iconst (pc' := 410) (v := (1 : Int32)) at_409 rfl rfl ?_
        refine OwnW.goto (pc' := 414) at_410 (by decide) (by decide) ?_
        exact OwnW.retN (t := .boolean) at_414 rfl (by simp) rfl (by decide) (by decide) (rfl)
      ·
        refine OwnW.icmpY (pc' := 413) at_401 (feq hc401).2 (by decide) (by decide) ?_
        refine OwnW.iconst (pc' := 414) (v := (0 : Int32)) at_413 rfl rfl ?_
        exact OwnW.retN (t := .boolean) at_414 rfl (by simp) rfl (by decide) (by decide) (absurd (own_law1_1 (d := d) hfi hkp hex) hc401)
  ·
    show GoB0 l Z n0 OwnW.One1 h8 1 4 94 #[.val (.long a0_), .second, .val (.long b0_), .second, .val (.long c0_), .second, .val (.long d0_), .second, .val (.int sel), .val (.int pick), .val (.int (2 : Int32)), .val (.long a0_), .second, .val (.long b), .second, .val (.long c), .second, .val (.long d), .second, .val (.ref ad1), .unset, .unset, .unset, .unset, .unset, .unset, .unset, .unset, .unset] []
    refine OwnW.iload (pc' := 96) at_94 rfl rfl ?_
    refine OwnW.newP (a0 := a0) (pc' := 98) (cap := 2) (k' := 2) (n' := 6) at_96 (hw _ (List.mem_of_getElem? (i := 0) rfl)) (by decide) (by decide) (by decide) rfl rfl (by decide) (by decide) rfl ?_
    intro h17 kc17 ad17 g17 E17 A17
    have lt_ad1_ad17 : @LT.lt Nat _ ad1 ad17 := Nat.lt_of_lt_of_le (V8).lt (Nat.le_of_eq g17.symm)
    have ge_ad17 : n0 ≤ ad17 := Nat.le_trans sz9 (Nat.le_of_eq g17.symm)
    have sz_ad17 : n0 ≤ h17.size := Nat.le_trans sz9 E17.1
    have V17 : Arv Z h17 ad17 kc17 .long (2 : Int32) [(.long (0 : Int64)), (.long (0 : Int64))] (.long (0 : Int64)) := (Arv.new A17 (by decide)).pad (pad_rep [] _ 2)
    refine OwnW.astore (pc' := 100) (L' := #[.val (.long a0_), .second, .val (.long b0_), .second, .val (.long c0_), .second, .val (.long d0_), .second, .val (.int sel), .val (.int pick), .val (.int (2 : Int32)), .val (.long a0_), .second, .val (.long b), .second, .val (.long c), .second, .val (.long d), .second, .val (.ref ad1), .val (.ref ad17), .unset, .unset, .unset, .unset, .unset, .unset, .unset, .unset]) at_98 (rfl) rfl rfl ?_
    refine OwnW.aload (pc' := 102) at_100 rfl (rfl) rfl ?_
    refine OwnW.iconst (pc' := 103) (v := (0 : Int32)) at_102 rfl rfl ?_
    refine OwnW.lload (pc' := 105) at_103 rfl rfl ?_
    obtain ⟨cl18, Ar18, qk18, Sz18, Mn18, Hv18, Gf18⟩ := id V17
    refine OwnW.stJ (pc' := 106) at_105 Ar18 (inb_of Sz18 ⟨by decide, by decide⟩) ge_ad17 rfl ?_
    intro h18 W18
    have sz19 : n0 ≤ h18.size := (by rw [W18.size]; exact sz_ad17)
    have V18 : Arv Z h18 ad17 kc17 .long (2 : Int32) [(.long a0_), (.long (0 : Int64))] (.long (0 : Int64)) := Arv.set Ar18 qk18 Sz18 Mn18 Hv18 Gf18 rfl W18 0 rfl (Nat.le_of_ble_eq_true rfl)
    refine OwnW.iload (pc' := 108) at_106 rfl rfl ?_
    refine OwnW.iconst (pc' := 109) (v := (1 : Int32)) at_108 rfl rfl ?_
    refine OwnW.icmpN (pc' := 112) at_109 (tlt (by decide)).2.2.2 rfl ?_
    refine OwnW.aload (pc' := 114) at_112 rfl (rfl) rfl ?_
    refine OwnW.iconst (pc' := 115) (v := (1 : Int32)) at_114 rfl rfl ?_
    refine OwnW.lload (pc' := 117) at_115 rfl rfl ?_
    obtain ⟨cl20, Ar20, qk20, Sz20, Mn20, Hv20, Gf20⟩ := id V18
    refine OwnW.stJ (pc' := 118) at_117 Ar20 (inb_of Sz20 ⟨by decide, by decide⟩) ge_ad17 rfl ?_
    intro h20 W20
    have sz21 : n0 ≤ h20.size := (by rw [W20.size]; exact sz19)
    have V20 : Arv Z h20 ad17 kc17 .long (2 : Int32) [(.long a0_), (.long b)] (.long (0 : Int64)) := Arv.set Ar20 qk20 Sz20 Mn20 Hv20 Gf20 rfl W20 1 rfl (Nat.le_of_ble_eq_true rfl)
    refine OwnW.iload (pc' := 120) at_118 rfl rfl ?_
    refine OwnW.iconst (pc' := 121) (v := (2 : Int32)) at_120 rfl rfl ?_
    refine OwnW.icmpY (pc' := 130) at_121 (flt (by decide)).2.2.2 (by decide) (by decide) ?_
    refine OwnW.iload (pc' := 132) at_130 rfl rfl ?_
    refine OwnW.iconst (pc' := 133) (v := (3 : Int32)) at_132 rfl rfl ?_
    refine OwnW.icmpY (pc' := 142) at_133 (flt (by decide)).2.2.2 (by decide) (by decide) ?_
    refine OwnW.iload (pc' := 144) at_142 rfl rfl ?_
    refine OwnW.ldcI (a0 := a0) (pc' := 146) (v := (2147483647 : Int32)) at_144 (hw _ (List.mem_of_getElem? (i := 1) rfl)) rfl ?_
    refine OwnW.iand (pc' := 147) at_146 rfl ?_
    refine OwnW.iload (pc' := 149) at_147 rfl rfl ?_
    refine OwnW.iconst (pc' := 150) (v := (1 : Int32)) at_149 rfl rfl ?_
    refine OwnW.iadd (pc' := 151) at_150 rfl ?_
    show GoB0 l Z n0 OwnW.One1 h20 2 6 151 #[.val (.long a0_), .second, .val (.long b0_), .second, .val (.long c0_), .second, .val (.long d0_), .second, .val (.int sel), .val (.int pick), .val (.int (2 : Int32)), .val (.long a0_), .second, .val (.long b), .second, .val (.long c), .second, .val (.long d), .second, .val (.ref ad1), .val (.ref ad17), .unset, .unset, .unset, .unset, .unset, .unset, .unset, .unset] [(.int (3 : Int32)), (.int (pick &&& (2147483647 : Int32)))]
    refine OwnW.irem (pc' := 152) at_151 (by decide) rfl ?_
    refine OwnW.iconst (pc' := 153) (v := (1 : Int32)) at_152 rfl rfl ?_
    refine OwnW.isub (pc' := 154) at_153 rfl ?_
    obtain ⟨pr, hpr⟩ : ∃ z, z = (((pick &&& (2147483647 : Int32)) % (3 : Int32)) - (1 : Int32)) := ⟨_, rfl⟩
    rw [← hpr]
    show GoB0 l Z n0 OwnW.One1 h20 2 6 154 #[.val (.long a0_), .second, .val (.long b0_), .second, .val (.long c0_), .second, .val (.long d0_), .second, .val (.int sel), .val (.int pick), .val (.int (2 : Int32)), .val (.long a0_), .second, .val (.long b), .second, .val (.long c), .second, .val (.long d), .second, .val (.ref ad1), .val (.ref ad17), .unset, .unset, .unset, .unset, .unset, .unset, .unset, .unset] [(.int pr)]
    refine OwnW.istore (pc' := 156) (L' := #[.val (.long a0_), .second, .val (.long b0_), .second, .val (.long c0_), .second, .val (.long d0_), .second, .val (.int sel), .val (.int pick), .val (.int (2 : Int32)), .val (.long a0_), .second, .val (.long b), .second, .val (.long c), .second, .val (.long d), .second, .val (.ref ad1), .val (.ref ad17), .val (.int pr), .unset, .unset, .unset, .unset, .unset, .unset, .unset]) at_154 rfl rfl ?_
    rcases (own_pr2 hpr) with rfl | rfl | rfl
    ·
      show GoB0 l Z n0 OwnW.One1 h20 2 6 156 #[.val (.long a0_), .second, .val (.long b0_), .second, .val (.long c0_), .second, .val (.long d0_), .second, .val (.int sel), .val (.int pick), .val (.int (2 : Int32)), .val (.long a0_), .second, .val (.long b), .second, .val (.long c), .second, .val (.long d), .second, .val (.ref ad1), .val (.ref ad17), .val (.int (-1 : Int32)), .unset, .unset, .unset, .unset, .unset, .unset, .unset] []
      refine OwnW.lload (pc' := 158) at_156 rfl rfl ?_
      refine OwnW.lstore (pc' := 160) (L' := #[.val (.long a0_), .second, .val (.long b0_), .second, .val (.long c0_), .second, .val (.long d0_), .second, .val (.int sel), .val (.int pick), .val (.int (2 : Int32)), .val (.long a0_), .second, .val (.long b), .second, .val (.long c), .second, .val (.long d), .second, .val (.ref ad1), .val (.ref ad17), .val (.int (-1 : Int32)), .val (.long a0_), .second, .unset, .unset, .unset, .unset, .unset]) at_158 rfl rfl ?_
      refine OwnW.iload (pc' := 162) at_160 rfl rfl ?_
      refine OwnW.iconst (pc' := 163) (v := (1 : Int32)) at_162 rfl rfl ?_
      refine OwnW.icmpN (pc' := 166) at_163 (tlt (by decide)).2.2.2 rfl ?_
      refine OwnW.lload (pc' := 168) at_166 rfl rfl ?_
      refine OwnW.lload (pc' := 170) at_168 rfl rfl ?_
      refine OwnW.callS0 (a0 := a0) (pc' := 173) (W := 0) (k' := 2) (n' := 6) (argsL := [(.long a0_), (.long b)]) (rest := []) (St' := [(.long (f1 a0_ b))]) at_170 (hw _ (List.mem_of_getElem? (i := 2) rfl)) (hw _ (List.mem_of_getElem? (i := 3) rfl)) (hw _ (List.mem_of_getElem? (i := 4) rfl)) (hw _ (List.mem_of_getElem? (i := 5) rfl)) (by decide) (rm1 l Z a0 hw a0_ b h20 n0) (by decide) (by decide) rfl rfl (by decide) (by decide) rfl pd_28JJ29J rfl rfl rfl (Nat.le_of_ble_eq_true rfl) rfl rfl ?_
      refine OwnW.lstore (pc' := 175) (L' := #[.val (.long a0_), .second, .val (.long b0_), .second, .val (.long c0_), .second, .val (.long d0_), .second, .val (.int sel), .val (.int pick), .val (.int (2 : Int32)), .val (.long a0_), .second, .val (.long b), .second, .val (.long c), .second, .val (.long d), .second, .val (.ref ad1), .val (.ref ad17), .val (.int (-1 : Int32)), .val (.long (f1 a0_ b)), .second, .unset, .unset, .unset, .unset, .unset]) at_173 rfl rfl ?_
      refine OwnW.iload (pc' := 177) at_175 rfl rfl ?_
      refine OwnW.iconst (pc' := 178) (v := (2 : Int32)) at_177 rfl rfl ?_
      refine OwnW.icmpY (pc' := 190) at_178 (flt (by decide)).2.2.2 (by decide) (by decide) ?_
      refine OwnW.iload (pc' := 192) at_190 rfl rfl ?_
      refine OwnW.iconst (pc' := 193) (v := (3 : Int32)) at_192 rfl rfl ?_
      refine OwnW.icmpY (pc' := 205) at_193 (flt (by decide)).2.2.2 (by decide) (by decide) ?_
      refine OwnW.lload (pc' := 207) at_205 rfl rfl ?_
      refine OwnW.lload (pc' := 209) at_207 rfl rfl ?_
      refine OwnW.lcmp (pc' := 210) at_209 rfl ?_
      suffices J210_250 : ∀ (fi : Int32), fi = (if (lcmpW a0_ (f1 a0_ b)) = (0 : Int32) then (0 : Int32) else (if (lcmpW b (f1 a0_ b)) = (0 : Int32) then (1 : Int32) else (if (lcmpW c (f1 a0_ b)) = (0 : Int32) then (2 : Int32) else (3 : Int32)))) → GoB0 l Z n0 OwnW.One1 h20 2 6 250 #[.val (.long a0_), .second, .val (.long b0_), .second, .val (.long c0_), .second, .val (.long d0_), .second, .val (.int sel), .val (.int pick), .val (.int (2 : Int32)), .val (.long a0_), .second, .val (.long b), .second, .val (.long c), .second, .val (.long d), .second, .val (.ref ad1), .val (.ref ad17), .val (.int (-1 : Int32)), .val (.long (f1 a0_ b)), .second, .val (.int fi), .unset, .unset, .unset, .unset] [] by
        by_cases hc210 : (lcmpW a0_ (f1 a0_ b)) = (0 : Int32)
        ·
          refine OwnW.ifcN (pc' := 213) at_210 ((if0 _ _).trans (teq hc210).2) rfl ?_
          refine OwnW.iconst (pc' := 214) (v := (0 : Int32)) at_213 rfl rfl ?_
          refine OwnW.istore (pc' := 216) (L' := #[.val (.long a0_), .second, .val (.long b0_), .second, .val (.long c0_), .second, .val (.long d0_), .second, .val (.int sel), .val (.int pick), .val (.int (2 : Int32)), .val (.long a0_), .second, .val (.long b), .second, .val (.long c), .second, .val (.long d), .second, .val (.ref ad1), .val (.ref ad17), .val (.int (-1 : Int32)), .val (.long (f1 a0_ b)), .second, .val (.int (0 : Int32)), .unset, .unset, .unset, .unset]) at_214 rfl rfl ?_
          refine OwnW.goto (pc' := 250) at_216 (by decide) (by decide) ?_
          exact J210_250 _ (by first | simp only [if_pos hc210] | rfl)
        ·
          refine OwnW.ifcY (pc' := 219) at_210 ((if0 _ _).trans (feq hc210).2) (by decide) (by decide) ?_
          refine OwnW.lload (pc' := 221) at_219 rfl rfl ?_
          refine OwnW.lload (pc' := 223) at_221 rfl rfl ?_
          refine OwnW.lcmp (pc' := 224) at_223 rfl ?_
          by_cases hc224 : (lcmpW b (f1 a0_ b)) = (0 : Int32)
          ·
            refine OwnW.ifcN (pc' := 227) at_224 ((if0 _ _).trans (teq hc224).2) rfl ?_
            refine OwnW.iconst (pc' := 228) (v := (1 : Int32)) at_227 rfl rfl ?_
            refine OwnW.istore (pc' := 230) (L' := #[.val (.long a0_), .second, .val (.long b0_), .second, .val (.long c0_), .second, .val (.long d0_), .second, .val (.int sel), .val (.int pick), .val (.int (2 : Int32)), .val (.long a0_), .second, .val (.long b), .second, .val (.long c), .second, .val (.long d), .second, .val (.ref ad1), .val (.ref ad17), .val (.int (-1 : Int32)), .val (.long (f1 a0_ b)), .second, .val (.int (1 : Int32)), .unset, .unset, .unset, .unset]) at_228 rfl rfl ?_
            refine OwnW.goto (pc' := 250) at_230 (by decide) (by decide) ?_
            exact J210_250 _ (by first | simp only [if_neg hc210, if_pos hc224] | rfl)
          ·
            refine OwnW.ifcY (pc' := 233) at_224 ((if0 _ _).trans (feq hc224).2) (by decide) (by decide) ?_
            refine OwnW.lload (pc' := 235) at_233 rfl rfl ?_
            refine OwnW.lload (pc' := 237) at_235 rfl rfl ?_
            refine OwnW.lcmp (pc' := 238) at_237 rfl ?_
            by_cases hc238 : (lcmpW c (f1 a0_ b)) = (0 : Int32)
            ·
              refine OwnW.ifcN (pc' := 241) at_238 ((if0 _ _).trans (teq hc238).2) rfl ?_
              refine OwnW.iconst (pc' := 242) (v := (2 : Int32)) at_241 rfl rfl ?_
              refine OwnW.istore (pc' := 244) (L' := #[.val (.long a0_), .second, .val (.long b0_), .second, .val (.long c0_), .second, .val (.long d0_), .second, .val (.int sel), .val (.int pick), .val (.int (2 : Int32)), .val (.long a0_), .second, .val (.long b), .second, .val (.long c), .second, .val (.long d), .second, .val (.ref ad1), .val (.ref ad17), .val (.int (-1 : Int32)), .val (.long (f1 a0_ b)), .second, .val (.int (2 : Int32)), .unset, .unset, .unset, .unset]) at_242 rfl rfl ?_
              refine OwnW.goto (pc' := 250) at_244 (by decide) (by decide) ?_
              exact J210_250 _ (by first | simp only [if_neg hc210, if_neg hc224, if_pos hc238] | rfl)
            ·
              refine OwnW.ifcY (pc' := 247) at_238 ((if0 _ _).trans (feq hc238).2) (by decide) (by decide) ?_
              refine OwnW.iconst (pc' := 248) (v := (3 : Int32)) at_247 rfl rfl ?_
              refine OwnW.istore (pc' := 250) (L' := #[.val (.long a0_), .second, .val (.long b0_), .second, .val (.long c0_), .second, .val (.long d0_), .second, .val (.int sel), .val (.int pick), .val (.int (2 : Int32)), .val (.long a0_), .second, .val (.long b), .second, .val (.long c), .second, .val (.long d), .second, .val (.ref ad1), .val (.ref ad17), .val (.int (-1 : Int32)), .val (.long (f1 a0_ b)), .second, .val (.int (3 : Int32)), .unset, .unset, .unset, .unset]) at_248 rfl rfl ?_
              exact J210_250 _ (by first | simp only [if_neg hc210, if_neg hc224, if_neg hc238] | rfl)
      intro fi hfi
      refine OwnW.iload (pc' := 252) at_250 rfl rfl ?_
      refine OwnW.ifcY (pc' := 270) at_252 ((if0 _ _).trans (tlt (by decide)).1) (by decide) (by decide) ?_
      refine OwnW.iconst (pc' := 271) (v := (0 : Int32)) at_270 rfl rfl ?_
      refine OwnW.istore (pc' := 273) (L' := #[.val (.long a0_), .second, .val (.long b0_), .second, .val (.long c0_), .second, .val (.long d0_), .second, .val (.int sel), .val (.int pick), .val (.int (2 : Int32)), .val (.long a0_), .second, .val (.long b), .second, .val (.long c), .second, .val (.long d), .second, .val (.ref ad1), .val (.ref ad17), .val (.int (-1 : Int32)), .val (.long (f1 a0_ b)), .second, .val (.int fi), .val (.int (0 : Int32)), .unset, .unset, .unset]) at_271 rfl rfl ?_
      refine OwnW.iload (pc' := 275) at_273 rfl rfl ?_
      refine OwnW.ifcY (pc' := 283) at_275 ((if0 _ _).trans (teq (by decide)).1) (by decide) (by decide) ?_
      refine OwnW.iload (pc' := 285) at_283 rfl rfl ?_
      refine OwnW.istore (pc' := 287) (L' := #[.val (.long a0_), .second, .val (.long b0_), .second, .val (.long c0_), .second, .val (.long d0_), .second, .val (.int sel), .val (.int pick), .val (.int (2 : Int32)), .val (.long a0_), .second, .val (.long b), .second, .val (.long c), .second, .val (.long d), .second, .val (.ref ad1), .val (.ref ad17), .val (.int (-1 : Int32)), .val (.long (f1 a0_ b)), .second, .val (.int fi), .val (.int (0 : Int32)), .val (.int fi), .unset, .unset]) at_285 rfl rfl ?_
      refine OwnW.aload (pc' := 289) at_287 rfl (rfl) rfl ?_
      refine OwnW.iload (pc' := 291) at_289 rfl rfl ?_
      refine OwnW.callS0 (a0 := a0) (pc' := 294) (W := 0) (k' := 2) (n' := 6) (argsL := [(.ref ad17), (.int (-1 : Int32))]) (rest := []) (St' := [(.int (f2_2_0 ad17 kc17 a0_ b))]) at_291 (hw _ (List.mem_of_getElem? (i := 6) rfl)) (hw _ (List.mem_of_getElem? (i := 7) rfl)) (hw _ (List.mem_of_getElem? (i := 8) rfl)) (hw _ (List.mem_of_getElem? (i := 9) rfl)) (by decide) (rm2_2_0 l Z a0 hw ad17 kc17 a0_ b h20 n0 V20) (by decide) (by decide) rfl rfl (by decide) (by decide) rfl pd_285bJI29I rfl rfl rfl (Nat.le_of_ble_eq_true rfl) rfl rfl ?_
      refine OwnW.istore (pc' := 296) (L' := #[.val (.long a0_), .second, .val (.long b0_), .second, .val (.long c0_), .second, .val (.long d0_), .second, .val (.int sel), .val (.int pick), .val (.int (2 : Int32)), .val (.long a0_), .second, .val (.long b), .second, .val (.long c), .second, .val (.long d), .second, .val (.ref ad1), .val (.ref ad17), .val (.int (-1 : Int32)), .val (.long (f1 a0_ b)), .second, .val (.int fi), .val (.int (0 : Int32)), .val (.int fi), .val (.int (f2_2_0 ad17 kc17 a0_ b)), .unset]) at_294 rfl rfl ?_
      refine OwnW.aload (pc' := 298) at_296 rfl (rfl) rfl ?_
      refine OwnW.iconst (pc' := 299) (v := (0 : Int32)) at_298 rfl rfl ?_
      obtain ⟨cl22, Ar22, qk22, Sz22, Mn22, Hv22, Gf22⟩ := id V20
      refine OwnW.laload (pc' := 300) (v := (.long a0_)) at_299 Ar22 (inb_of Sz22 ⟨by decide, by decide⟩) (Hv22.at (inb_of Sz22 ⟨by decide, by decide⟩) rfl) rfl ?_
      refine OwnW.lload (pc' := 302) at_300 rfl rfl ?_
      refine OwnW.lcmp (pc' := 303) at_302 rfl ?_
      refine OwnW.ifcN (pc' := 306) at_303 ((if0 _ _).trans (teq ((lw_eq _ _).mpr rfl)).2) rfl ?_
      refine OwnW.iconst (pc' := 307) (v := (1 : Int32)) at_306 rfl rfl ?_
      refine OwnW.goto (pc' := 311) at_307 (by decide) (by decide) ?_
      refine OwnW.istore (pc' := 313) (L' := #[.val (.long a0_), .second, .val (.long b0_), .second, .val (.long c0_), .second, .val (.long d0_), .second, .val (.int sel), .val (.int pick), .val (.int (2 : Int32)), .val (.long a0_), .second, .val (.long b), .second, .val (.long c), .second, .val (.long d), .second, .val (.ref ad1), .val (.ref ad17), .val (.int (-1 : Int32)), .val (.long (f1 a0_ b)), .second, .val (.int fi), .val (.int (0 : Int32)), .val (.int fi), .val (.int (f2_2_0 ad17 kc17 a0_ b)), .val (.int (1 : Int32))]) at_311 rfl rfl ?_
      refine OwnW.iload (pc' := 315) at_313 rfl rfl ?_
      refine OwnW.iconst (pc' := 316) (v := (1 : Int32)) at_315 rfl rfl ?_
      refine OwnW.icmpN (pc' := 319) at_316 (tlt (by decide)).2.2.2 rfl ?_
      refine OwnW.iload (pc' := 321) at_319 rfl rfl ?_
      refine OwnW.ifcN (pc' := 324) at_321 ((if0 _ _).trans (feq (by decide)).1) rfl ?_
      refine OwnW.aload (pc' := 326) at_324 rfl (rfl) rfl ?_
      refine OwnW.iconst (pc' := 327) (v := (1 : Int32)) at_326 rfl rfl ?_
      obtain ⟨cl23, Ar23, qk23, Sz23, Mn23, Hv23, Gf23⟩ := id V20
      refine OwnW.laload (pc' := 328) (v := (.long b)) at_327 Ar23 (inb_of Sz23 ⟨by decide, by decide⟩) (Hv23.at (inb_of Sz23 ⟨by decide, by decide⟩) rfl) rfl ?_
      refine OwnW.lload (pc' := 330) at_328 rfl rfl ?_
      refine OwnW.lcmp (pc' := 331) at_330 rfl ?_
      refine OwnW.ifcN (pc' := 334) at_331 ((if0 _ _).trans (teq ((lw_eq _ _).mpr rfl)).2) rfl ?_
      refine OwnW.iconst (pc' := 335) (v := (1 : Int32)) at_334 rfl rfl ?_
      refine OwnW.goto (pc' := 339) at_335 (by decide) (by decide) ?_
      refine OwnW.istore (pc' := 341) (L' := #[.val (.long a0_), .second, .val (.long b0_), .second, .val (.long c0_), .second, .val (.long d0_), .second, .val (.int sel), .val (.int pick), .val (.int (2 : Int32)), .val (.long a0_), .second, .val (.long b), .second, .val (.long c), .second, .val (.long d), .second, .val (.ref ad1), .val (.ref ad17), .val (.int (-1 : Int32)), .val (.long (f1 a0_ b)), .second, .val (.int fi), .val (.int (0 : Int32)), .val (.int fi), .val (.int (f2_2_0 ad17 kc17 a0_ b)), .val (.int (1 : Int32))]) at_339 rfl rfl ?_
      refine OwnW.iload (pc' := 343) at_341 rfl rfl ?_
      refine OwnW.iconst (pc' := 344) (v := (2 : Int32)) at_343 rfl rfl ?_
      refine OwnW.icmpY (pc' := 369) at_344 (flt (by decide)).2.2.2 (by decide) (by decide) ?_
      refine OwnW.iload (pc' := 371) at_369 rfl rfl ?_
      refine OwnW.iconst (pc' := 372) (v := (3 : Int32)) at_371 rfl rfl ?_
      refine OwnW.icmpY (pc' := 397) at_372 (flt (by decide)).2.2.2 (by decide) (by decide) ?_
      refine OwnW.iload (pc' := 399) at_397 rfl rfl ?_
      refine OwnW.iload (pc' := 401) at_399 rfl rfl ?_
      by_cases hc401 : (f2_2_0 ad17 kc17 a0_ b) = fi
      ·
        refine OwnW.icmpN (pc' := 404) at_401 (teq hc401).2 rfl ?_
        refine OwnW.iload (pc' := 406) at_404 rfl rfl ?_
        refine OwnW.ifcN (pc' := 409) at_406 ((if0 _ _).trans (feq (by decide)).1) rfl ?_
        refine OwnW.iconst (pc' := 410) (v := (1 : Int32)) at_409 rfl rfl ?_
        refine OwnW.goto (pc' := 414) at_410 (by decide) (by decide) ?_
        exact OwnW.retN (t := .boolean) at_414 rfl (by simp) rfl (by decide) (by decide) (rfl)
      ·
        refine OwnW.icmpY (pc' := 413) at_401 (feq hc401).2 (by decide) (by decide) ?_
        refine OwnW.iconst (pc' := 414) (v := (0 : Int32)) at_413 rfl rfl ?_
        exact OwnW.retN (t := .boolean) at_414 rfl (by simp) rfl (by decide) (by decide) (absurd (own_law2_0 (d := d) hfi ) hc401)
    ·
      show GoB0 l Z n0 OwnW.One1 h20 2 6 156 #[.val (.long a0_), .second, .val (.long b0_), .second, .val (.long c0_), .second, .val (.long d0_), .second, .val (.int sel), .val (.int pick), .val (.int (2 : Int32)), .val (.long a0_), .second, .val (.long b), .second, .val (.long c), .second, .val (.long d), .second, .val (.ref ad1), .val (.ref ad17), .val (.int (0 : Int32)), .unset, .unset, .unset, .unset, .unset, .unset, .unset] []
      refine OwnW.lload (pc' := 158) at_156 rfl rfl ?_
      refine OwnW.lstore (pc' := 160) (L' := #[.val (.long a0_), .second, .val (.long b0_), .second, .val (.long c0_), .second, .val (.long d0_), .second, .val (.int sel), .val (.int pick), .val (.int (2 : Int32)), .val (.long a0_), .second, .val (.long b), .second, .val (.long c), .second, .val (.long d), .second, .val (.ref ad1), .val (.ref ad17), .val (.int (0 : Int32)), .val (.long a0_), .second, .unset, .unset, .unset, .unset, .unset]) at_158 rfl rfl ?_
      refine OwnW.iload (pc' := 162) at_160 rfl rfl ?_
      refine OwnW.iconst (pc' := 163) (v := (1 : Int32)) at_162 rfl rfl ?_
      refine OwnW.icmpN (pc' := 166) at_163 (tlt (by decide)).2.2.2 rfl ?_
      refine OwnW.lload (pc' := 168) at_166 rfl rfl ?_
      refine OwnW.lload (pc' := 170) at_168 rfl rfl ?_
      refine OwnW.callS0 (a0 := a0) (pc' := 173) (W := 0) (k' := 2) (n' := 6) (argsL := [(.long a0_), (.long b)]) (rest := []) (St' := [(.long (f1 a0_ b))]) at_170 (hw _ (List.mem_of_getElem? (i := 2) rfl)) (hw _ (List.mem_of_getElem? (i := 3) rfl)) (hw _ (List.mem_of_getElem? (i := 4) rfl)) (hw _ (List.mem_of_getElem? (i := 5) rfl)) (by decide) (rm1 l Z a0 hw a0_ b h20 n0) (by decide) (by decide) rfl rfl (by decide) (by decide) rfl pd_28JJ29J rfl rfl rfl (Nat.le_of_ble_eq_true rfl) rfl rfl ?_
      refine OwnW.lstore (pc' := 175) (L' := #[.val (.long a0_), .second, .val (.long b0_), .second, .val (.long c0_), .second, .val (.long d0_), .second, .val (.int sel), .val (.int pick), .val (.int (2 : Int32)), .val (.long a0_), .second, .val (.long b), .second, .val (.long c), .second, .val (.long d), .second, .val (.ref ad1), .val (.ref ad17), .val (.int (0 : Int32)), .val (.long (f1 a0_ b)), .second, .unset, .unset, .unset, .unset, .unset]) at_173 rfl rfl ?_
      refine OwnW.iload (pc' := 177) at_175 rfl rfl ?_
      refine OwnW.iconst (pc' := 178) (v := (2 : Int32)) at_177 rfl rfl ?_
      refine OwnW.icmpY (pc' := 190) at_178 (flt (by decide)).2.2.2 (by decide) (by decide) ?_
      refine OwnW.iload (pc' := 192) at_190 rfl rfl ?_
      refine OwnW.iconst (pc' := 193) (v := (3 : Int32)) at_192 rfl rfl ?_
      refine OwnW.icmpY (pc' := 205) at_193 (flt (by decide)).2.2.2 (by decide) (by decide) ?_
      refine OwnW.lload (pc' := 207) at_205 rfl rfl ?_
      refine OwnW.lload (pc' := 209) at_207 rfl rfl ?_
      refine OwnW.lcmp (pc' := 210) at_209 rfl ?_
      suffices J210_250 : ∀ (fi : Int32), fi = (if (lcmpW a0_ (f1 a0_ b)) = (0 : Int32) then (0 : Int32) else (if (lcmpW b (f1 a0_ b)) = (0 : Int32) then (1 : Int32) else (if (lcmpW c (f1 a0_ b)) = (0 : Int32) then (2 : Int32) else (3 : Int32)))) → GoB0 l Z n0 OwnW.One1 h20 2 6 250 #[.val (.long a0_), .second, .val (.long b0_), .second, .val (.long c0_), .second, .val (.long d0_), .second, .val (.int sel), .val (.int pick), .val (.int (2 : Int32)), .val (.long a0_), .second, .val (.long b), .second, .val (.long c), .second, .val (.long d), .second, .val (.ref ad1), .val (.ref ad17), .val (.int (0 : Int32)), .val (.long (f1 a0_ b)), .second, .val (.int fi), .unset, .unset, .unset, .unset] [] by
        by_cases hc210 : (lcmpW a0_ (f1 a0_ b)) = (0 : Int32)
        ·
          refine OwnW.ifcN (pc' := 213) at_210 ((if0 _ _).trans (teq hc210).2) rfl ?_
          refine OwnW.iconst (pc' := 214) (v := (0 : Int32)) at_213 rfl rfl ?_
          refine OwnW.istore (pc' := 216) (L' := #[.val (.long a0_), .second, .val (.long b0_), .second, .val (.long c0_), .second, .val (.long d0_), .second, .val (.int sel), .val (.int pick), .val (.int (2 : Int32)), .val (.long a0_), .second, .val (.long b), .second, .val (.long c), .second, .val (.long d), .second, .val (.ref ad1), .val (.ref ad17), .val (.int (0 : Int32)), .val (.long (f1 a0_ b)), .second, .val (.int (0 : Int32)), .unset, .unset, .unset, .unset]) at_214 rfl rfl ?_
          refine OwnW.goto (pc' := 250) at_216 (by decide) (by decide) ?_
          exact J210_250 _ (by first | simp only [if_pos hc210] | rfl)
        ·
          refine OwnW.ifcY (pc' := 219) at_210 ((if0 _ _).trans (feq hc210).2) (by decide) (by decide) ?_
          refine OwnW.lload (pc' := 221) at_219 rfl rfl ?_
          refine OwnW.lload (pc' := 223) at_221 rfl rfl ?_
          refine OwnW.lcmp (pc' := 224) at_223 rfl ?_
          by_cases hc224 : (lcmpW b (f1 a0_ b)) = (0 : Int32)
          ·
            refine OwnW.ifcN (pc' := 227) at_224 ((if0 _ _).trans (teq hc224).2) rfl ?_
            refine OwnW.iconst (pc' := 228) (v := (1 : Int32)) at_227 rfl rfl ?_
            refine OwnW.istore (pc' := 230) (L' := #[.val (.long a0_), .second, .val (.long b0_), .second, .val (.long c0_), .second, .val (.long d0_), .second, .val (.int sel), .val (.int pick), .val (.int (2 : Int32)), .val (.long a0_), .second, .val (.long b), .second, .val (.long c), .second, .val (.long d), .second, .val (.ref ad1), .val (.ref ad17), .val (.int (0 : Int32)), .val (.long (f1 a0_ b)), .second, .val (.int (1 : Int32)), .unset, .unset, .unset, .unset]) at_228 rfl rfl ?_
            refine OwnW.goto (pc' := 250) at_230 (by decide) (by decide) ?_
            exact J210_250 _ (by first | simp only [if_neg hc210, if_pos hc224] | rfl)
          ·
            refine OwnW.ifcY (pc' := 233) at_224 ((if0 _ _).trans (feq hc224).2) (by decide) (by decide) ?_
            refine OwnW.lload (pc' := 235) at_233 rfl rfl ?_
            refine OwnW.lload (pc' := 237) at_235 rfl rfl ?_
            refine OwnW.lcmp (pc' := 238) at_237 rfl ?_
            by_cases hc238 : (lcmpW c (f1 a0_ b)) = (0 : Int32)
            ·
              refine OwnW.ifcN (pc' := 241) at_238 ((if0 _ _).trans (teq hc238).2) rfl ?_
              refine OwnW.iconst (pc' := 242) (v := (2 : Int32)) at_241 rfl rfl ?_
              refine OwnW.istore (pc' := 244) (L' := #[.val (.long a0_), .second, .val (.long b0_), .second, .val (.long c0_), .second, .val (.long d0_), .second, .val (.int sel), .val (.int pick), .val (.int (2 : Int32)), .val (.long a0_), .second, .val (.long b), .second, .val (.long c), .second, .val (.long d), .second, .val (.ref ad1), .val (.ref ad17), .val (.int (0 : Int32)), .val (.long (f1 a0_ b)), .second, .val (.int (2 : Int32)), .unset, .unset, .unset, .unset]) at_242 rfl rfl ?_
              refine OwnW.goto (pc' := 250) at_244 (by decide) (by decide) ?_
              exact J210_250 _ (by first | simp only [if_neg hc210, if_neg hc224, if_pos hc238] | rfl)
            ·
              refine OwnW.ifcY (pc' := 247) at_238 ((if0 _ _).trans (feq hc238).2) (by decide) (by decide) ?_
              refine OwnW.iconst (pc' := 248) (v := (3 : Int32)) at_247 rfl rfl ?_
              refine OwnW.istore (pc' := 250) (L' := #[.val (.long a0_), .second, .val (.long b0_), .second, .val (.long c0_), .second, .val (.long d0_), .second, .val (.int sel), .val (.int pick), .val (.int (2 : Int32)), .val (.long a0_), .second, .val (.long b), .second, .val (.long c), .second, .val (.long d), .second, .val (.ref ad1), .val (.ref ad17), .val (.int (0 : Int32)), .val (.long (f1 a0_ b)), .second, .val (.int (3 : Int32)), .unset, .unset, .unset, .unset]) at_248 rfl rfl ?_
              exact J210_250 _ (by first | simp only [if_neg hc210, if_neg hc224, if_neg hc238] | rfl)
      intro fi hfi
      refine OwnW.iload (pc' := 252) at_250 rfl rfl ?_
      refine OwnW.ifcN (pc' := 255) at_252 ((if0 _ _).trans (flt (by decide)).1) rfl ?_
      refine OwnW.aload (pc' := 257) at_255 rfl (rfl) rfl ?_
      refine OwnW.iload (pc' := 259) at_257 rfl rfl ?_
      have F24 := (((V8.ext E17).other W18 (Nat.ne_of_lt lt_ad1_ad17)).other W20 (Nat.ne_of_lt lt_ad1_ad17))
      obtain ⟨cl25, Ar25, qk25, Sz25, Mn25, Hv25, Gf25⟩ := id F24
      refine OwnW.laload (pc' := 260) (v := (.long a0_)) at_259 Ar25 (inb_of Sz25 ⟨by decide, by decide⟩) (Hv25.at (inb_of Sz25 ⟨by decide, by decide⟩) rfl) rfl ?_
      refine OwnW.lload (pc' := 262) at_260 rfl rfl ?_
      refine OwnW.lcmp (pc' := 263) at_262 rfl ?_
      suffices J263_271 : ∀ (kp : Int32), kp = (if (lcmpW a0_ (f1 a0_ b)) = (0 : Int32) then (1 : Int32) else (0 : Int32)) → GoB0 l Z n0 OwnW.One1 h20 2 6 271 #[.val (.long a0_), .second, .val (.long b0_), .second, .val (.long c0_), .second, .val (.long d0_), .second, .val (.int sel), .val (.int pick), .val (.int (2 : Int32)), .val (.long a0_), .second, .val (.long b), .second, .val (.long c), .second, .val (.long d), .second, .val (.ref ad1), .val (.ref ad17), .val (.int (0 : Int32)), .val (.long (f1 a0_ b)), .second, .val (.int fi), .unset, .unset, .unset, .unset] [(.int kp)] by
        by_cases hc263 : (lcmpW a0_ (f1 a0_ b)) = (0 : Int32)
        ·
          refine OwnW.ifcN (pc' := 266) at_263 ((if0 _ _).trans (teq hc263).2) rfl ?_
          refine OwnW.iconst (pc' := 267) (v := (1 : Int32)) at_266 rfl rfl ?_
          refine OwnW.goto (pc' := 271) at_267 (by decide) (by decide) ?_
          exact J263_271 _ (by first | simp only [if_pos hc263] | rfl)
        ·
          refine OwnW.ifcY (pc' := 270) at_263 ((if0 _ _).trans (feq hc263).2) (by decide) (by decide) ?_
          refine OwnW.iconst (pc' := 271) (v := (0 : Int32)) at_270 rfl rfl ?_
          exact J263_271 _ (by first | simp only [if_neg hc263] | rfl)
      intro kp hkp
      refine OwnW.istore (pc' := 273) (L' := #[.val (.long a0_), .second, .val (.long b0_), .second, .val (.long c0_), .second, .val (.long d0_), .second, .val (.int sel), .val (.int pick), .val (.int (2 : Int32)), .val (.long a0_), .second, .val (.long b), .second, .val (.long c), .second, .val (.long d), .second, .val (.ref ad1), .val (.ref ad17), .val (.int (0 : Int32)), .val (.long (f1 a0_ b)), .second, .val (.int fi), .val (.int kp), .unset, .unset, .unset]) at_271 rfl rfl ?_
      refine OwnW.iload (pc' := 275) at_273 rfl rfl ?_
      suffices J275_285 : ∀ (ex : Int32), ex = (if kp = (0 : Int32) then fi else (0 : Int32)) → GoB0 l Z n0 OwnW.One1 h20 2 6 285 #[.val (.long a0_), .second, .val (.long b0_), .second, .val (.long c0_), .second, .val (.long d0_), .second, .val (.int sel), .val (.int pick), .val (.int (2 : Int32)), .val (.long a0_), .second, .val (.long b), .second, .val (.long c), .second, .val (.long d), .second, .val (.ref ad1), .val (.ref ad17), .val (.int (0 : Int32)), .val (.long (f1 a0_ b)), .second, .val (.int fi), .val (.int kp), .unset, .unset, .unset] [(.int ex)] by
        by_cases hc275 : kp = (0 : Int32)
        ·
          refine OwnW.ifcY (pc' := 283) at_275 ((if0 _ _).trans (teq hc275).1) (by decide) (by decide) ?_
          refine OwnW.iload (pc' := 285) at_283 rfl rfl ?_
          exact J275_285 _ (by first | simp only [if_pos hc275] | rfl)
        ·
          refine OwnW.ifcN (pc' := 278) at_275 ((if0 _ _).trans (feq hc275).1) rfl ?_
          refine OwnW.iload (pc' := 280) at_278 rfl rfl ?_
          refine OwnW.goto (pc' := 285) at_280 (by decide) (by decide) ?_
          exact J275_285 _ (by first | simp only [if_neg hc275] | rfl)
      intro ex hex
      refine OwnW.istore (pc' := 287) (L' := #[.val (.long a0_), .second, .val (.long b0_), .second, .val (.long c0_), .second, .val (.long d0_), .second, .val (.int sel), .val (.int pick), .val (.int (2 : Int32)), .val (.long a0_), .second, .val (.long b), .second, .val (.long c), .second, .val (.long d), .second, .val (.ref ad1), .val (.ref ad17), .val (.int (0 : Int32)), .val (.long (f1 a0_ b)), .second, .val (.int fi), .val (.int kp), .val (.int ex), .unset, .unset]) at_285 rfl rfl ?_
      refine OwnW.aload (pc' := 289) at_287 rfl (rfl) rfl ?_
      refine OwnW.iload (pc' := 291) at_289 rfl rfl ?_
      refine OwnW.callS0 (a0 := a0) (pc' := 294) (W := 0) (k' := 2) (n' := 6) (argsL := [(.ref ad17), (.int (0 : Int32))]) (rest := []) (St' := [(.int (f2_2_1 ad17 kc17 a0_ b))]) at_291 (hw _ (List.mem_of_getElem? (i := 6) rfl)) (hw _ (List.mem_of_getElem? (i := 7) rfl)) (hw _ (List.mem_of_getElem? (i := 8) rfl)) (hw _ (List.mem_of_getElem? (i := 9) rfl)) (by decide) (rm2_2_1 l Z a0 hw ad17 kc17 a0_ b h20 n0 V20) (by decide) (by decide) rfl rfl (by decide) (by decide) rfl pd_285bJI29I rfl rfl rfl (Nat.le_of_ble_eq_true rfl) rfl rfl ?_
      refine OwnW.istore (pc' := 296) (L' := #[.val (.long a0_), .second, .val (.long b0_), .second, .val (.long c0_), .second, .val (.long d0_), .second, .val (.int sel), .val (.int pick), .val (.int (2 : Int32)), .val (.long a0_), .second, .val (.long b), .second, .val (.long c), .second, .val (.long d), .second, .val (.ref ad1), .val (.ref ad17), .val (.int (0 : Int32)), .val (.long (f1 a0_ b)), .second, .val (.int fi), .val (.int kp), .val (.int ex), .val (.int (f2_2_1 ad17 kc17 a0_ b)), .unset]) at_294 rfl rfl ?_
      refine OwnW.aload (pc' := 298) at_296 rfl (rfl) rfl ?_
      refine OwnW.iconst (pc' := 299) (v := (0 : Int32)) at_298 rfl rfl ?_
      obtain ⟨cl26, Ar26, qk26, Sz26, Mn26, Hv26, Gf26⟩ := id V20
      refine OwnW.laload (pc' := 300) (v := (.long a0_)) at_299 Ar26 (inb_of Sz26 ⟨by decide, by decide⟩) (Hv26.at (inb_of Sz26 ⟨by decide, by decide⟩) rfl) rfl ?_
      refine OwnW.lload (pc' := 302) at_300 rfl rfl ?_
      refine OwnW.lcmp (pc' := 303) at_302 rfl ?_
      refine OwnW.ifcN (pc' := 306) at_303 ((if0 _ _).trans (teq ((lw_eq _ _).mpr rfl)).2) rfl ?_
      refine OwnW.iconst (pc' := 307) (v := (1 : Int32)) at_306 rfl rfl ?_
      refine OwnW.goto (pc' := 311) at_307 (by decide) (by decide) ?_
      refine OwnW.istore (pc' := 313) (L' := #[.val (.long a0_), .second, .val (.long b0_), .second, .val (.long c0_), .second, .val (.long d0_), .second, .val (.int sel), .val (.int pick), .val (.int (2 : Int32)), .val (.long a0_), .second, .val (.long b), .second, .val (.long c), .second, .val (.long d), .second, .val (.ref ad1), .val (.ref ad17), .val (.int (0 : Int32)), .val (.long (f1 a0_ b)), .second, .val (.int fi), .val (.int kp), .val (.int ex), .val (.int (f2_2_1 ad17 kc17 a0_ b)), .val (.int (1 : Int32))]) at_311 rfl rfl ?_
      refine OwnW.iload (pc' := 315) at_313 rfl rfl ?_
      refine OwnW.iconst (pc' := 316) (v := (1 : Int32)) at_315 rfl rfl ?_
      refine OwnW.icmpN (pc' := 319) at_316 (tlt (by decide)).2.2.2 rfl ?_
      refine OwnW.iload (pc' := 321) at_319 rfl rfl ?_
      refine OwnW.ifcN (pc' := 324) at_321 ((if0 _ _).trans (feq (by decide)).1) rfl ?_
      refine OwnW.aload (pc' := 326) at_324 rfl (rfl) rfl ?_
      refine OwnW.iconst (pc' := 327) (v := (1 : Int32)) at_326 rfl rfl ?_
      obtain ⟨cl27, Ar27, qk27, Sz27, Mn27, Hv27, Gf27⟩ := id V20
      refine OwnW.laload (pc' := 328) (v := (.long b)) at_327 Ar27 (inb_of Sz27 ⟨by decide, by decide⟩) (Hv27.at (inb_of Sz27 ⟨by decide, by decide⟩) rfl) rfl ?_
      refine OwnW.lload (pc' := 330) at_328 rfl rfl ?_
      refine OwnW.lcmp (pc' := 331) at_330 rfl ?_
      refine OwnW.ifcN (pc' := 334) at_331 ((if0 _ _).trans (teq ((lw_eq _ _).mpr rfl)).2) rfl ?_
      refine OwnW.iconst (pc' := 335) (v := (1 : Int32)) at_334 rfl rfl ?_
      refine OwnW.goto (pc' := 339) at_335 (by decide) (by decide) ?_
      refine OwnW.istore (pc' := 341) (L' := #[.val (.long a0_), .second, .val (.long b0_), .second, .val (.long c0_), .second, .val (.long d0_), .second, .val (.int sel), .val (.int pick), .val (.int (2 : Int32)), .val (.long a0_), .second, .val (.long b), .second, .val (.long c), .second, .val (.long d), .second, .val (.ref ad1), .val (.ref ad17), .val (.int (0 : Int32)), .val (.long (f1 a0_ b)), .second, .val (.int fi), .val (.int kp), .val (.int ex), .val (.int (f2_2_1 ad17 kc17 a0_ b)), .val (.int (1 : Int32))]) at_339 rfl rfl ?_
      refine OwnW.iload (pc' := 343) at_341 rfl rfl ?_
      refine OwnW.iconst (pc' := 344) (v := (2 : Int32)) at_343 rfl rfl ?_
      refine OwnW.icmpY (pc' := 369) at_344 (flt (by decide)).2.2.2 (by decide) (by decide) ?_
      refine OwnW.iload (pc' := 371) at_369 rfl rfl ?_
      refine OwnW.iconst (pc' := 372) (v := (3 : Int32)) at_371 rfl rfl ?_
      refine OwnW.icmpY (pc' := 397) at_372 (flt (by decide)).2.2.2 (by decide) (by decide) ?_
      refine OwnW.iload (pc' := 399) at_397 rfl rfl ?_
      refine OwnW.iload (pc' := 401) at_399 rfl rfl ?_
      by_cases hc401 : (f2_2_1 ad17 kc17 a0_ b) = ex
      ·
        refine OwnW.icmpN (pc' := 404) at_401 (teq hc401).2 rfl ?_
        refine OwnW.iload (pc' := 406) at_404 rfl rfl ?_
        refine OwnW.ifcN (pc' := 409) at_406 ((if0 _ _).trans (feq (by decide)).1) rfl ?_
        refine OwnW.iconst (pc' := 410) (v := (1 : Int32)) at_409 rfl rfl ?_
        refine OwnW.goto (pc' := 414) at_410 (by decide) (by decide) ?_
        exact OwnW.retN (t := .boolean) at_414 rfl (by simp) rfl (by decide) (by decide) (rfl)
      ·
        refine OwnW.icmpY (pc' := 413) at_401 (feq hc401).2 (by decide) (by decide) ?_
        refine OwnW.iconst (pc' := 414) (v := (0 : Int32)) at_413 rfl rfl ?_
        exact OwnW.retN (t := .boolean) at_414 rfl (by simp) rfl (by decide) (by decide) (absurd (own_law2_1 (d := d) hfi hkp hex) hc401)
    ·
      show GoB0 l Z n0 OwnW.One1 h20 2 6 156 #[.val (.long a0_), .second, .val (.long b0_), .second, .val (.long c0_), .second, .val (.long d0_), .second, .val (.int sel), .val (.int pick), .val (.int (2 : Int32)), .val (.long a0_), .second, .val (.long b), .second, .val (.long c), .second, .val (.long d), .second, .val (.ref ad1), .val (.ref ad17), .val (.int (1 : Int32)), .unset, .unset, .unset, .unset, .unset, .unset, .unset] []
      refine OwnW.lload (pc' := 158) at_156 rfl rfl ?_
      refine OwnW.lstore (pc' := 160) (L' := #[.val (.long a0_), .second, .val (.long b0_), .second, .val (.long c0_), .second, .val (.long d0_), .second, .val (.int sel), .val (.int pick), .val (.int (2 : Int32)), .val (.long a0_), .second, .val (.long b), .second, .val (.long c), .second, .val (.long d), .second, .val (.ref ad1), .val (.ref ad17), .val (.int (1 : Int32)), .val (.long a0_), .second, .unset, .unset, .unset, .unset, .unset]) at_158 rfl rfl ?_
      refine OwnW.iload (pc' := 162) at_160 rfl rfl ?_
      refine OwnW.iconst (pc' := 163) (v := (1 : Int32)) at_162 rfl rfl ?_
      refine OwnW.icmpN (pc' := 166) at_163 (tlt (by decide)).2.2.2 rfl ?_
      refine OwnW.lload (pc' := 168) at_166 rfl rfl ?_
      refine OwnW.lload (pc' := 170) at_168 rfl rfl ?_
      refine OwnW.callS0 (a0 := a0) (pc' := 173) (W := 0) (k' := 2) (n' := 6) (argsL := [(.long a0_), (.long b)]) (rest := []) (St' := [(.long (f1 a0_ b))]) at_170 (hw _ (List.mem_of_getElem? (i := 2) rfl)) (hw _ (List.mem_of_getElem? (i := 3) rfl)) (hw _ (List.mem_of_getElem? (i := 4) rfl)) (hw _ (List.mem_of_getElem? (i := 5) rfl)) (by decide) (rm1 l Z a0 hw a0_ b h20 n0) (by decide) (by decide) rfl rfl (by decide) (by decide) rfl pd_28JJ29J rfl rfl rfl (Nat.le_of_ble_eq_true rfl) rfl rfl ?_
      refine OwnW.lstore (pc' := 175) (L' := #[.val (.long a0_), .second, .val (.long b0_), .second, .val (.long c0_), .second, .val (.long d0_), .second, .val (.int sel), .val (.int pick), .val (.int (2 : Int32)), .val (.long a0_), .second, .val (.long b), .second, .val (.long c), .second, .val (.long d), .second, .val (.ref ad1), .val (.ref ad17), .val (.int (1 : Int32)), .val (.long (f1 a0_ b)), .second, .unset, .unset, .unset, .unset, .unset]) at_173 rfl rfl ?_
      refine OwnW.iload (pc' := 177) at_175 rfl rfl ?_
      refine OwnW.iconst (pc' := 178) (v := (2 : Int32)) at_177 rfl rfl ?_
      refine OwnW.icmpY (pc' := 190) at_178 (flt (by decide)).2.2.2 (by decide) (by decide) ?_
      refine OwnW.iload (pc' := 192) at_190 rfl rfl ?_
      refine OwnW.iconst (pc' := 193) (v := (3 : Int32)) at_192 rfl rfl ?_
      refine OwnW.icmpY (pc' := 205) at_193 (flt (by decide)).2.2.2 (by decide) (by decide) ?_
      refine OwnW.lload (pc' := 207) at_205 rfl rfl ?_
      refine OwnW.lload (pc' := 209) at_207 rfl rfl ?_
      refine OwnW.lcmp (pc' := 210) at_209 rfl ?_
      suffices J210_250 : ∀ (fi : Int32), fi = (if (lcmpW a0_ (f1 a0_ b)) = (0 : Int32) then (0 : Int32) else (if (lcmpW b (f1 a0_ b)) = (0 : Int32) then (1 : Int32) else (if (lcmpW c (f1 a0_ b)) = (0 : Int32) then (2 : Int32) else (3 : Int32)))) → GoB0 l Z n0 OwnW.One1 h20 2 6 250 #[.val (.long a0_), .second, .val (.long b0_), .second, .val (.long c0_), .second, .val (.long d0_), .second, .val (.int sel), .val (.int pick), .val (.int (2 : Int32)), .val (.long a0_), .second, .val (.long b), .second, .val (.long c), .second, .val (.long d), .second, .val (.ref ad1), .val (.ref ad17), .val (.int (1 : Int32)), .val (.long (f1 a0_ b)), .second, .val (.int fi), .unset, .unset, .unset, .unset] [] by
        by_cases hc210 : (lcmpW a0_ (f1 a0_ b)) = (0 : Int32)
        ·
          refine OwnW.ifcN (pc' := 213) at_210 ((if0 _ _).trans (teq hc210).2) rfl ?_
          refine OwnW.iconst (pc' := 214) (v := (0 : Int32)) at_213 rfl rfl ?_
          refine OwnW.istore (pc' := 216) (L' := #[.val (.long a0_), .second, .val (.long b0_), .second, .val (.long c0_), .second, .val (.long d0_), .second, .val (.int sel), .val (.int pick), .val (.int (2 : Int32)), .val (.long a0_), .second, .val (.long b), .second, .val (.long c), .second, .val (.long d), .second, .val (.ref ad1), .val (.ref ad17), .val (.int (1 : Int32)), .val (.long (f1 a0_ b)), .second, .val (.int (0 : Int32)), .unset, .unset, .unset, .unset]) at_214 rfl rfl ?_
          refine OwnW.goto (pc' := 250) at_216 (by decide) (by decide) ?_
          exact J210_250 _ (by first | simp only [if_pos hc210] | rfl)
        ·
          refine OwnW.ifcY (pc' := 219) at_210 ((if0 _ _).trans (feq hc210).2) (by decide) (by decide) ?_
          refine OwnW.lload (pc' := 221) at_219 rfl rfl ?_
          refine OwnW.lload (pc' := 223) at_221 rfl rfl ?_
          refine OwnW.lcmp (pc' := 224) at_223 rfl ?_
          by_cases hc224 : (lcmpW b (f1 a0_ b)) = (0 : Int32)
          ·
            refine OwnW.ifcN (pc' := 227) at_224 ((if0 _ _).trans (teq hc224).2) rfl ?_
            refine OwnW.iconst (pc' := 228) (v := (1 : Int32)) at_227 rfl rfl ?_
            refine OwnW.istore (pc' := 230) (L' := #[.val (.long a0_), .second, .val (.long b0_), .second, .val (.long c0_), .second, .val (.long d0_), .second, .val (.int sel), .val (.int pick), .val (.int (2 : Int32)), .val (.long a0_), .second, .val (.long b), .second, .val (.long c), .second, .val (.long d), .second, .val (.ref ad1), .val (.ref ad17), .val (.int (1 : Int32)), .val (.long (f1 a0_ b)), .second, .val (.int (1 : Int32)), .unset, .unset, .unset, .unset]) at_228 rfl rfl ?_
            refine OwnW.goto (pc' := 250) at_230 (by decide) (by decide) ?_
            exact J210_250 _ (by first | simp only [if_neg hc210, if_pos hc224] | rfl)
          ·
            refine OwnW.ifcY (pc' := 233) at_224 ((if0 _ _).trans (feq hc224).2) (by decide) (by decide) ?_
            refine OwnW.lload (pc' := 235) at_233 rfl rfl ?_
            refine OwnW.lload (pc' := 237) at_235 rfl rfl ?_
            refine OwnW.lcmp (pc' := 238) at_237 rfl ?_
            by_cases hc238 : (lcmpW c (f1 a0_ b)) = (0 : Int32)
            ·
              refine OwnW.ifcN (pc' := 241) at_238 ((if0 _ _).trans (teq hc238).2) rfl ?_
              refine OwnW.iconst (pc' := 242) (v := (2 : Int32)) at_241 rfl rfl ?_
              refine OwnW.istore (pc' := 244) (L' := #[.val (.long a0_), .second, .val (.long b0_), .second, .val (.long c0_), .second, .val (.long d0_), .second, .val (.int sel), .val (.int pick), .val (.int (2 : Int32)), .val (.long a0_), .second, .val (.long b), .second, .val (.long c), .second, .val (.long d), .second, .val (.ref ad1), .val (.ref ad17), .val (.int (1 : Int32)), .val (.long (f1 a0_ b)), .second, .val (.int (2 : Int32)), .unset, .unset, .unset, .unset]) at_242 rfl rfl ?_
              refine OwnW.goto (pc' := 250) at_244 (by decide) (by decide) ?_
              exact J210_250 _ (by first | simp only [if_neg hc210, if_neg hc224, if_pos hc238] | rfl)
            ·
              refine OwnW.ifcY (pc' := 247) at_238 ((if0 _ _).trans (feq hc238).2) (by decide) (by decide) ?_
              refine OwnW.iconst (pc' := 248) (v := (3 : Int32)) at_247 rfl rfl ?_
              refine OwnW.istore (pc' := 250) (L' := #[.val (.long a0_), .second, .val (.long b0_), .second, .val (.long c0_), .second, .val (.long d0_), .second, .val (.int sel), .val (.int pick), .val (.int (2 : Int32)), .val (.long a0_), .second, .val (.long b), .second, .val (.long c), .second, .val (.long d), .second, .val (.ref ad1), .val (.ref ad17), .val (.int (1 : Int32)), .val (.long (f1 a0_ b)), .second, .val (.int (3 : Int32)), .unset, .unset, .unset, .unset]) at_248 rfl rfl ?_
              exact J210_250 _ (by first | simp only [if_neg hc210, if_neg hc224, if_neg hc238] | rfl)
      intro fi hfi
      refine OwnW.iload (pc' := 252) at_250 rfl rfl ?_
      refine OwnW.ifcN (pc' := 255) at_252 ((if0 _ _).trans (flt (by decide)).1) rfl ?_
      refine OwnW.aload (pc' := 257) at_255 rfl (rfl) rfl ?_
      refine OwnW.iload (pc' := 259) at_257 rfl rfl ?_
      have F28 := (((V8.ext E17).other W18 (Nat.ne_of_lt lt_ad1_ad17)).other W20 (Nat.ne_of_lt lt_ad1_ad17))
      obtain ⟨cl29, Ar29, qk29, Sz29, Mn29, Hv29, Gf29⟩ := id F28
      refine OwnW.laload (pc' := 260) (v := (.long b)) at_259 Ar29 (inb_of Sz29 ⟨by decide, by decide⟩) (Hv29.at (inb_of Sz29 ⟨by decide, by decide⟩) rfl) rfl ?_
      refine OwnW.lload (pc' := 262) at_260 rfl rfl ?_
      refine OwnW.lcmp (pc' := 263) at_262 rfl ?_
      suffices J263_271 : ∀ (kp : Int32), kp = (if (lcmpW b (f1 a0_ b)) = (0 : Int32) then (1 : Int32) else (0 : Int32)) → GoB0 l Z n0 OwnW.One1 h20 2 6 271 #[.val (.long a0_), .second, .val (.long b0_), .second, .val (.long c0_), .second, .val (.long d0_), .second, .val (.int sel), .val (.int pick), .val (.int (2 : Int32)), .val (.long a0_), .second, .val (.long b), .second, .val (.long c), .second, .val (.long d), .second, .val (.ref ad1), .val (.ref ad17), .val (.int (1 : Int32)), .val (.long (f1 a0_ b)), .second, .val (.int fi), .unset, .unset, .unset, .unset] [(.int kp)] by
        by_cases hc263 : (lcmpW b (f1 a0_ b)) = (0 : Int32)
        ·
          refine OwnW.ifcN (pc' := 266) at_263 ((if0 _ _).trans (teq hc263).2) rfl ?_
          refine OwnW.iconst (pc' := 267) (v := (1 : Int32)) at_266 rfl rfl ?_
          refine OwnW.goto (pc' := 271) at_267 (by decide) (by decide) ?_
          exact J263_271 _ (by first | simp only [if_pos hc263] | rfl)
        ·
          refine OwnW.ifcY (pc' := 270) at_263 ((if0 _ _).trans (feq hc263).2) (by decide) (by decide) ?_
          refine OwnW.iconst (pc' := 271) (v := (0 : Int32)) at_270 rfl rfl ?_
          exact J263_271 _ (by first | simp only [if_neg hc263] | rfl)
      intro kp hkp
      refine OwnW.istore (pc' := 273) (L' := #[.val (.long a0_), .second, .val (.long b0_), .second, .val (.long c0_), .second, .val (.long d0_), .second, .val (.int sel), .val (.int pick), .val (.int (2 : Int32)), .val (.long a0_), .second, .val (.long b), .second, .val (.long c), .second, .val (.long d), .second, .val (.ref ad1), .val (.ref ad17), .val (.int (1 : Int32)), .val (.long (f1 a0_ b)), .second, .val (.int fi), .val (.int kp), .unset, .unset, .unset]) at_271 rfl rfl ?_
      refine OwnW.iload (pc' := 275) at_273 rfl rfl ?_
      suffices J275_285 : ∀ (ex : Int32), ex = (if kp = (0 : Int32) then fi else (1 : Int32)) → GoB0 l Z n0 OwnW.One1 h20 2 6 285 #[.val (.long a0_), .second, .val (.long b0_), .second, .val (.long c0_), .second, .val (.long d0_), .second, .val (.int sel), .val (.int pick), .val (.int (2 : Int32)), .val (.long a0_), .second, .val (.long b), .second, .val (.long c), .second, .val (.long d), .second, .val (.ref ad1), .val (.ref ad17), .val (.int (1 : Int32)), .val (.long (f1 a0_ b)), .second, .val (.int fi), .val (.int kp), .unset, .unset, .unset] [(.int ex)] by
        by_cases hc275 : kp = (0 : Int32)
        ·
          refine OwnW.ifcY (pc' := 283) at_275 ((if0 _ _).trans (teq hc275).1) (by decide) (by decide) ?_
          refine OwnW.iload (pc' := 285) at_283 rfl rfl ?_
          exact J275_285 _ (by first | simp only [if_pos hc275] | rfl)
        ·
          refine OwnW.ifcN (pc' := 278) at_275 ((if0 _ _).trans (feq hc275).1) rfl ?_
          refine OwnW.iload (pc' := 280) at_278 rfl rfl ?_
          refine OwnW.goto (pc' := 285) at_280 (by decide) (by decide) ?_
          exact J275_285 _ (by first | simp only [if_neg hc275] | rfl)
      intro ex hex
      refine OwnW.istore (pc' := 287) (L' := #[.val (.long a0_), .second, .val (.long b0_), .second, .val (.long c0_), .second, .val (.long d0_), .second, .val (.int sel), .val (.int pick), .val (.int (2 : Int32)), .val (.long a0_), .second, .val (.long b), .second, .val (.long c), .second, .val (.long d), .second, .val (.ref ad1), .val (.ref ad17), .val (.int (1 : Int32)), .val (.long (f1 a0_ b)), .second, .val (.int fi), .val (.int kp), .val (.int ex), .unset, .unset]) at_285 rfl rfl ?_
      refine OwnW.aload (pc' := 289) at_287 rfl (rfl) rfl ?_
      refine OwnW.iload (pc' := 291) at_289 rfl rfl ?_
      refine OwnW.callS0 (a0 := a0) (pc' := 294) (W := 0) (k' := 2) (n' := 6) (argsL := [(.ref ad17), (.int (1 : Int32))]) (rest := []) (St' := [(.int (f2_2_2 ad17 kc17 a0_ b))]) at_291 (hw _ (List.mem_of_getElem? (i := 6) rfl)) (hw _ (List.mem_of_getElem? (i := 7) rfl)) (hw _ (List.mem_of_getElem? (i := 8) rfl)) (hw _ (List.mem_of_getElem? (i := 9) rfl)) (by decide) (rm2_2_2 l Z a0 hw ad17 kc17 a0_ b h20 n0 V20) (by decide) (by decide) rfl rfl (by decide) (by decide) rfl pd_285bJI29I rfl rfl rfl (Nat.le_of_ble_eq_true rfl) rfl rfl ?_
      refine OwnW.istore (pc' := 296) (L' := #[.val (.long a0_), .second, .val (.long b0_), .second, .val (.long c0_), .second, .val (.long d0_), .second, .val (.int sel), .val (.int pick), .val (.int (2 : Int32)), .val (.long a0_), .second, .val (.long b), .second, .val (.long c), .second, .val (.long d), .second, .val (.ref ad1), .val (.ref ad17), .val (.int (1 : Int32)), .val (.long (f1 a0_ b)), .second, .val (.int fi), .val (.int kp), .val (.int ex), .val (.int (f2_2_2 ad17 kc17 a0_ b)), .unset]) at_294 rfl rfl ?_
      refine OwnW.aload (pc' := 298) at_296 rfl (rfl) rfl ?_
      refine OwnW.iconst (pc' := 299) (v := (0 : Int32)) at_298 rfl rfl ?_
      obtain ⟨cl30, Ar30, qk30, Sz30, Mn30, Hv30, Gf30⟩ := id V20
      refine OwnW.laload (pc' := 300) (v := (.long a0_)) at_299 Ar30 (inb_of Sz30 ⟨by decide, by decide⟩) (Hv30.at (inb_of Sz30 ⟨by decide, by decide⟩) rfl) rfl ?_
      refine OwnW.lload (pc' := 302) at_300 rfl rfl ?_
      refine OwnW.lcmp (pc' := 303) at_302 rfl ?_
      refine OwnW.ifcN (pc' := 306) at_303 ((if0 _ _).trans (teq ((lw_eq _ _).mpr rfl)).2) rfl ?_
      refine OwnW.iconst (pc' := 307) (v := (1 : Int32)) at_306 rfl rfl ?_
      refine OwnW.goto (pc' := 311) at_307 (by decide) (by decide) ?_
      refine OwnW.istore (pc' := 313) (L' := #[.val (.long a0_), .second, .val (.long b0_), .second, .val (.long c0_), .second, .val (.long d0_), .second, .val (.int sel), .val (.int pick), .val (.int (2 : Int32)), .val (.long a0_), .second, .val (.long b), .second, .val (.long c), .second, .val (.long d), .second, .val (.ref ad1), .val (.ref ad17), .val (.int (1 : Int32)), .val (.long (f1 a0_ b)), .second, .val (.int fi), .val (.int kp), .val (.int ex), .val (.int (f2_2_2 ad17 kc17 a0_ b)), .val (.int (1 : Int32))]) at_311 rfl rfl ?_
      refine OwnW.iload (pc' := 315) at_313 rfl rfl ?_
      refine OwnW.iconst (pc' := 316) (v := (1 : Int32)) at_315 rfl rfl ?_
      refine OwnW.icmpN (pc' := 319) at_316 (tlt (by decide)).2.2.2 rfl ?_
      refine OwnW.iload (pc' := 321) at_319 rfl rfl ?_
      refine OwnW.ifcN (pc' := 324) at_321 ((if0 _ _).trans (feq (by decide)).1) rfl ?_
      refine OwnW.aload (pc' := 326) at_324 rfl (rfl) rfl ?_
      refine OwnW.iconst (pc' := 327) (v := (1 : Int32)) at_326 rfl rfl ?_
      obtain ⟨cl31, Ar31, qk31, Sz31, Mn31, Hv31, Gf31⟩ := id V20
      refine OwnW.laload (pc' := 328) (v := (.long b)) at_327 Ar31 (inb_of Sz31 ⟨by decide, by decide⟩) (Hv31.at (inb_of Sz31 ⟨by decide, by decide⟩) rfl) rfl ?_
      refine OwnW.lload (pc' := 330) at_328 rfl rfl ?_
      refine OwnW.lcmp (pc' := 331) at_330 rfl ?_
      refine OwnW.ifcN (pc' := 334) at_331 ((if0 _ _).trans (teq ((lw_eq _ _).mpr rfl)).2) rfl ?_
      refine OwnW.iconst (pc' := 335) (v := (1 : Int32)) at_334 rfl rfl ?_
      refine OwnW.goto (pc' := 339) at_335 (by decide) (by decide) ?_
      refine OwnW.istore (pc' := 341) (L' := #[.val (.long a0_), .second, .val (.long b0_), .second, .val (.long c0_), .second, .val (.long d0_), .second, .val (.int sel), .val (.int pick), .val (.int (2 : Int32)), .val (.long a0_), .second, .val (.long b), .second, .val (.long c), .second, .val (.long d), .second, .val (.ref ad1), .val (.ref ad17), .val (.int (1 : Int32)), .val (.long (f1 a0_ b)), .second, .val (.int fi), .val (.int kp), .val (.int ex), .val (.int (f2_2_2 ad17 kc17 a0_ b)), .val (.int (1 : Int32))]) at_339 rfl rfl ?_
      refine OwnW.iload (pc' := 343) at_341 rfl rfl ?_
      refine OwnW.iconst (pc' := 344) (v := (2 : Int32)) at_343 rfl rfl ?_
      refine OwnW.icmpY (pc' := 369) at_344 (flt (by decide)).2.2.2 (by decide) (by decide) ?_
      refine OwnW.iload (pc' := 371) at_369 rfl rfl ?_
      refine OwnW.iconst (pc' := 372) (v := (3 : Int32)) at_371 rfl rfl ?_
      refine OwnW.icmpY (pc' := 397) at_372 (flt (by decide)).2.2.2 (by decide) (by decide) ?_
      refine OwnW.iload (pc' := 399) at_397 rfl rfl ?_
      refine OwnW.iload (pc' := 401) at_399 rfl rfl ?_
      by_cases hc401 : (f2_2_2 ad17 kc17 a0_ b) = ex
      ·
        refine OwnW.icmpN (pc' := 404) at_401 (teq hc401).2 rfl ?_
        refine OwnW.iload (pc' := 406) at_404 rfl rfl ?_
        refine OwnW.ifcN (pc' := 409) at_406 ((if0 _ _).trans (feq (by decide)).1) rfl ?_
        refine OwnW.iconst (pc' := 410) (v := (1 : Int32)) at_409 rfl rfl ?_
        refine OwnW.goto (pc' := 414) at_410 (by decide) (by decide) ?_
        exact OwnW.retN (t := .boolean) at_414 rfl (by simp) rfl (by decide) (by decide) (rfl)
      ·
        refine OwnW.icmpY (pc' := 413) at_401 (feq hc401).2 (by decide) (by decide) ?_
        refine OwnW.iconst (pc' := 414) (v := (0 : Int32)) at_413 rfl rfl ?_
        exact OwnW.retN (t := .boolean) at_414 rfl (by simp) rfl (by decide) (by decide) (absurd (own_law2_2 (d := d) hfi hkp hex) hc401)
  ·
    show GoB0 l Z n0 OwnW.One1 h8 1 4 94 #[.val (.long a0_), .second, .val (.long b0_), .second, .val (.long c0_), .second, .val (.long d0_), .second, .val (.int sel), .val (.int pick), .val (.int (3 : Int32)), .val (.long a0_), .second, .val (.long b), .second, .val (.long c), .second, .val (.long d), .second, .val (.ref ad1), .unset, .unset, .unset, .unset, .unset, .unset, .unset, .unset, .unset] []
    refine OwnW.iload (pc' := 96) at_94 rfl rfl ?_
    refine OwnW.newP (a0 := a0) (pc' := 98) (cap := 3) (k' := 2) (n' := 7) at_96 (hw _ (List.mem_of_getElem? (i := 0) rfl)) (by decide) (by decide) (by decide) rfl rfl (by decide) (by decide) rfl ?_
    intro h32 kc32 ad32 g32 E32 A32
    have lt_ad1_ad32 : @LT.lt Nat _ ad1 ad32 := Nat.lt_of_lt_of_le (V8).lt (Nat.le_of_eq g32.symm)
    have ge_ad32 : n0 ≤ ad32 := Nat.le_trans sz9 (Nat.le_of_eq g32.symm)
    have sz_ad32 : n0 ≤ h32.size := Nat.le_trans sz9 E32.1
    have V32 : Arv Z h32 ad32 kc32 .long (3 : Int32) [(.long (0 : Int64)), (.long (0 : Int64)), (.long (0 : Int64))] (.long (0 : Int64)) := (Arv.new A32 (by decide)).pad (pad_rep [] _ 3)
    refine OwnW.astore (pc' := 100) (L' := #[.val (.long a0_), .second, .val (.long b0_), .second, .val (.long c0_), .second, .val (.long d0_), .second, .val (.int sel), .val (.int pick), .val (.int (3 : Int32)), .val (.long a0_), .second, .val (.long b), .second, .val (.long c), .second, .val (.long d), .second, .val (.ref ad1), .val (.ref ad32), .unset, .unset, .unset, .unset, .unset, .unset, .unset, .unset]) at_98 (rfl) rfl rfl ?_
    refine OwnW.aload (pc' := 102) at_100 rfl (rfl) rfl ?_
    refine OwnW.iconst (pc' := 103) (v := (0 : Int32)) at_102 rfl rfl ?_
    refine OwnW.lload (pc' := 105) at_103 rfl rfl ?_
    obtain ⟨cl33, Ar33, qk33, Sz33, Mn33, Hv33, Gf33⟩ := id V32
    refine OwnW.stJ (pc' := 106) at_105 Ar33 (inb_of Sz33 ⟨by decide, by decide⟩) ge_ad32 rfl ?_
    intro h33 W33
    have sz34 : n0 ≤ h33.size := (by rw [W33.size]; exact sz_ad32)
    have V33 : Arv Z h33 ad32 kc32 .long (3 : Int32) [(.long a0_), (.long (0 : Int64)), (.long (0 : Int64))] (.long (0 : Int64)) := Arv.set Ar33 qk33 Sz33 Mn33 Hv33 Gf33 rfl W33 0 rfl (Nat.le_of_ble_eq_true rfl)
    refine OwnW.iload (pc' := 108) at_106 rfl rfl ?_
    refine OwnW.iconst (pc' := 109) (v := (1 : Int32)) at_108 rfl rfl ?_
    refine OwnW.icmpN (pc' := 112) at_109 (tlt (by decide)).2.2.2 rfl ?_
    refine OwnW.aload (pc' := 114) at_112 rfl (rfl) rfl ?_
    refine OwnW.iconst (pc' := 115) (v := (1 : Int32)) at_114 rfl rfl ?_
    refine OwnW.lload (pc' := 117) at_115 rfl rfl ?_
    obtain ⟨cl35, Ar35, qk35, Sz35, Mn35, Hv35, Gf35⟩ := id V33
    refine OwnW.stJ (pc' := 118) at_117 Ar35 (inb_of Sz35 ⟨by decide, by decide⟩) ge_ad32 rfl ?_
    intro h35 W35
    have sz36 : n0 ≤ h35.size := (by rw [W35.size]; exact sz34)
    have V35 : Arv Z h35 ad32 kc32 .long (3 : Int32) [(.long a0_), (.long b), (.long (0 : Int64))] (.long (0 : Int64)) := Arv.set Ar35 qk35 Sz35 Mn35 Hv35 Gf35 rfl W35 1 rfl (Nat.le_of_ble_eq_true rfl)
    refine OwnW.iload (pc' := 120) at_118 rfl rfl ?_
    refine OwnW.iconst (pc' := 121) (v := (2 : Int32)) at_120 rfl rfl ?_
    refine OwnW.icmpN (pc' := 124) at_121 (tlt (by decide)).2.2.2 rfl ?_
    refine OwnW.aload (pc' := 126) at_124 rfl (rfl) rfl ?_
    refine OwnW.iconst (pc' := 127) (v := (2 : Int32)) at_126 rfl rfl ?_
    refine OwnW.lload (pc' := 129) at_127 rfl rfl ?_
    obtain ⟨cl37, Ar37, qk37, Sz37, Mn37, Hv37, Gf37⟩ := id V35
    refine OwnW.stJ (pc' := 130) at_129 Ar37 (inb_of Sz37 ⟨by decide, by decide⟩) ge_ad32 rfl ?_
    intro h37 W37
    have sz38 : n0 ≤ h37.size := (by rw [W37.size]; exact sz36)
    have V37 : Arv Z h37 ad32 kc32 .long (3 : Int32) [(.long a0_), (.long b), (.long c)] (.long (0 : Int64)) := Arv.set Ar37 qk37 Sz37 Mn37 Hv37 Gf37 rfl W37 2 rfl (Nat.le_of_ble_eq_true rfl)
    refine OwnW.iload (pc' := 132) at_130 rfl rfl ?_
    refine OwnW.iconst (pc' := 133) (v := (3 : Int32)) at_132 rfl rfl ?_
    refine OwnW.icmpY (pc' := 142) at_133 (flt (by decide)).2.2.2 (by decide) (by decide) ?_
    refine OwnW.iload (pc' := 144) at_142 rfl rfl ?_
    refine OwnW.ldcI (a0 := a0) (pc' := 146) (v := (2147483647 : Int32)) at_144 (hw _ (List.mem_of_getElem? (i := 1) rfl)) rfl ?_
    refine OwnW.iand (pc' := 147) at_146 rfl ?_
    refine OwnW.iload (pc' := 149) at_147 rfl rfl ?_
    refine OwnW.iconst (pc' := 150) (v := (1 : Int32)) at_149 rfl rfl ?_
    refine OwnW.iadd (pc' := 151) at_150 rfl ?_
    show GoB0 l Z n0 OwnW.One1 h37 2 7 151 #[.val (.long a0_), .second, .val (.long b0_), .second, .val (.long c0_), .second, .val (.long d0_), .second, .val (.int sel), .val (.int pick), .val (.int (3 : Int32)), .val (.long a0_), .second, .val (.long b), .second, .val (.long c), .second, .val (.long d), .second, .val (.ref ad1), .val (.ref ad32), .unset, .unset, .unset, .unset, .unset, .unset, .unset, .unset] [(.int (4 : Int32)), (.int (pick &&& (2147483647 : Int32)))]
    refine OwnW.irem (pc' := 152) at_151 (by decide) rfl ?_
    refine OwnW.iconst (pc' := 153) (v := (1 : Int32)) at_152 rfl rfl ?_
    refine OwnW.isub (pc' := 154) at_153 rfl ?_
    obtain ⟨pr, hpr⟩ : ∃ z, z = (((pick &&& (2147483647 : Int32)) % (4 : Int32)) - (1 : Int32)) := ⟨_, rfl⟩
    rw [← hpr]
    show GoB0 l Z n0 OwnW.One1 h37 2 7 154 #[.val (.long a0_), .second, .val (.long b0_), .second, .val (.long c0_), .second, .val (.long d0_), .second, .val (.int sel), .val (.int pick), .val (.int (3 : Int32)), .val (.long a0_), .second, .val (.long b), .second, .val (.long c), .second, .val (.long d), .second, .val (.ref ad1), .val (.ref ad32), .unset, .unset, .unset, .unset, .unset, .unset, .unset, .unset] [(.int pr)]
    refine OwnW.istore (pc' := 156) (L' := #[.val (.long a0_), .second, .val (.long b0_), .second, .val (.long c0_), .second, .val (.long d0_), .second, .val (.int sel), .val (.int pick), .val (.int (3 : Int32)), .val (.long a0_), .second, .val (.long b), .second, .val (.long c), .second, .val (.long d), .second, .val (.ref ad1), .val (.ref ad32), .val (.int pr), .unset, .unset, .unset, .unset, .unset, .unset, .unset]) at_154 rfl rfl ?_
    rcases (own_pr3 hpr) with rfl | rfl | rfl | rfl
    ·
      show GoB0 l Z n0 OwnW.One1 h37 2 7 156 #[.val (.long a0_), .second, .val (.long b0_), .second, .val (.long c0_), .second, .val (.long d0_), .second, .val (.int sel), .val (.int pick), .val (.int (3 : Int32)), .val (.long a0_), .second, .val (.long b), .second, .val (.long c), .second, .val (.long d), .second, .val (.ref ad1), .val (.ref ad32), .val (.int (-1 : Int32)), .unset, .unset, .unset, .unset, .unset, .unset, .unset] []
      refine OwnW.lload (pc' := 158) at_156 rfl rfl ?_
      refine OwnW.lstore (pc' := 160) (L' := #[.val (.long a0_), .second, .val (.long b0_), .second, .val (.long c0_), .second, .val (.long d0_), .second, .val (.int sel), .val (.int pick), .val (.int (3 : Int32)), .val (.long a0_), .second, .val (.long b), .second, .val (.long c), .second, .val (.long d), .second, .val (.ref ad1), .val (.ref ad32), .val (.int (-1 : Int32)), .val (.long a0_), .second, .unset, .unset, .unset, .unset, .unset]) at_158 rfl rfl ?_
      refine OwnW.iload (pc' := 162) at_160 rfl rfl ?_
      refine OwnW.iconst (pc' := 163) (v := (1 : Int32)) at_162 rfl rfl ?_
      refine OwnW.icmpN (pc' := 166) at_163 (tlt (by decide)).2.2.2 rfl ?_
      refine OwnW.lload (pc' := 168) at_166 rfl rfl ?_
      refine OwnW.lload (pc' := 170) at_168 rfl rfl ?_
      refine OwnW.callS0 (a0 := a0) (pc' := 173) (W := 0) (k' := 2) (n' := 7) (argsL := [(.long a0_), (.long b)]) (rest := []) (St' := [(.long (f1 a0_ b))]) at_170 (hw _ (List.mem_of_getElem? (i := 2) rfl)) (hw _ (List.mem_of_getElem? (i := 3) rfl)) (hw _ (List.mem_of_getElem? (i := 4) rfl)) (hw _ (List.mem_of_getElem? (i := 5) rfl)) (by decide) (rm1 l Z a0 hw a0_ b h37 n0) (by decide) (by decide) rfl rfl (by decide) (by decide) rfl pd_28JJ29J rfl rfl rfl (Nat.le_of_ble_eq_true rfl) rfl rfl ?_
      refine OwnW.lstore (pc' := 175) (L' := #[.val (.long a0_), .second, .val (.long b0_), .second, .val (.long c0_), .second, .val (.long d0_), .second, .val (.int sel), .val (.int pick), .val (.int (3 : Int32)), .val (.long a0_), .second, .val (.long b), .second, .val (.long c), .second, .val (.long d), .second, .val (.ref ad1), .val (.ref ad32), .val (.int (-1 : Int32)), .val (.long (f1 a0_ b)), .second, .unset, .unset, .unset, .unset, .unset]) at_173 rfl rfl ?_
      refine OwnW.iload (pc' := 177) at_175 rfl rfl ?_
      refine OwnW.iconst (pc' := 178) (v := (2 : Int32)) at_177 rfl rfl ?_
      refine OwnW.icmpN (pc' := 181) at_178 (tlt (by decide)).2.2.2 rfl ?_
      refine OwnW.lload (pc' := 183) at_181 rfl rfl ?_
      refine OwnW.lload (pc' := 185) at_183 rfl rfl ?_
      refine OwnW.callS0 (a0 := a0) (pc' := 188) (W := 0) (k' := 2) (n' := 7) (argsL := [(.long (f1 a0_ b)), (.long c)]) (rest := []) (St' := [(.long (f1 (f1 a0_ b) c))]) at_185 (hw _ (List.mem_of_getElem? (i := 2) rfl)) (hw _ (List.mem_of_getElem? (i := 3) rfl)) (hw _ (List.mem_of_getElem? (i := 4) rfl)) (hw _ (List.mem_of_getElem? (i := 5) rfl)) (by decide) (rm1 l Z a0 hw (f1 a0_ b) c h37 n0) (by decide) (by decide) rfl rfl (by decide) (by decide) rfl pd_28JJ29J rfl rfl rfl (Nat.le_of_ble_eq_true rfl) rfl rfl ?_
      refine OwnW.lstore (pc' := 190) (L' := #[.val (.long a0_), .second, .val (.long b0_), .second, .val (.long c0_), .second, .val (.long d0_), .second, .val (.int sel), .val (.int pick), .val (.int (3 : Int32)), .val (.long a0_), .second, .val (.long b), .second, .val (.long c), .second, .val (.long d), .second, .val (.ref ad1), .val (.ref ad32), .val (.int (-1 : Int32)), .val (.long (f1 (f1 a0_ b) c)), .second, .unset, .unset, .unset, .unset, .unset]) at_188 rfl rfl ?_
      refine OwnW.iload (pc' := 192) at_190 rfl rfl ?_
      refine OwnW.iconst (pc' := 193) (v := (3 : Int32)) at_192 rfl rfl ?_
      refine OwnW.icmpY (pc' := 205) at_193 (flt (by decide)).2.2.2 (by decide) (by decide) ?_
      refine OwnW.lload (pc' := 207) at_205 rfl rfl ?_
      refine OwnW.lload (pc' := 209) at_207 rfl rfl ?_
      refine OwnW.lcmp (pc' := 210) at_209 rfl ?_
      suffices J210_250 : ∀ (fi : Int32), fi = (if (lcmpW a0_ (f1 (f1 a0_ b) c)) = (0 : Int32) then (0 : Int32) else (if (lcmpW b (f1 (f1 a0_ b) c)) = (0 : Int32) then (1 : Int32) else (if (lcmpW c (f1 (f1 a0_ b) c)) = (0 : Int32) then (2 : Int32) else (3 : Int32)))) → GoB0 l Z n0 OwnW.One1 h37 2 7 250 #[.val (.long a0_), .second, .val (.long b0_), .second, .val (.long c0_), .second, .val (.long d0_), .second, .val (.int sel), .val (.int pick), .val (.int (3 : Int32)), .val (.long a0_), .second, .val (.long b), .second, .val (.long c), .second, .val (.long d), .second, .val (.ref ad1), .val (.ref ad32), .val (.int (-1 : Int32)), .val (.long (f1 (f1 a0_ b) c)), .second, .val (.int fi), .unset, .unset, .unset, .unset] [] by
        by_cases hc210 : (lcmpW a0_ (f1 (f1 a0_ b) c)) = (0 : Int32)
        ·
          refine OwnW.ifcN (pc' := 213) at_210 ((if0 _ _).trans (teq hc210).2) rfl ?_
          refine OwnW.iconst (pc' := 214) (v := (0 : Int32)) at_213 rfl rfl ?_
          refine OwnW.istore (pc' := 216) (L' := #[.val (.long a0_), .second, .val (.long b0_), .second, .val (.long c0_), .second, .val (.long d0_), .second, .val (.int sel), .val (.int pick), .val (.int (3 : Int32)), .val (.long a0_), .second, .val (.long b), .second, .val (.long c), .second, .val (.long d), .second, .val (.ref ad1), .val (.ref ad32), .val (.int (-1 : Int32)), .val (.long (f1 (f1 a0_ b) c)), .second, .val (.int (0 : Int32)), .unset, .unset, .unset, .unset]) at_214 rfl rfl ?_
          refine OwnW.goto (pc' := 250) at_216 (by decide) (by decide) ?_
          exact J210_250 _ (by first | simp only [if_pos hc210] | rfl)
        ·
          refine OwnW.ifcY (pc' := 219) at_210 ((if0 _ _).trans (feq hc210).2) (by decide) (by decide) ?_
          refine OwnW.lload (pc' := 221) at_219 rfl rfl ?_
          refine OwnW.lload (pc' := 223) at_221 rfl rfl ?_
          refine OwnW.lcmp (pc' := 224) at_223 rfl ?_
          by_cases hc224 : (lcmpW b (f1 (f1 a0_ b) c)) = (0 : Int32)
          ·
            refine OwnW.ifcN (pc' := 227) at_224 ((if0 _ _).trans (teq hc224).2) rfl ?_
            refine OwnW.iconst (pc' := 228) (v := (1 : Int32)) at_227 rfl rfl ?_
            refine OwnW.istore (pc' := 230) (L' := #[.val (.long a0_), .second, .val (.long b0_), .second, .val (.long c0_), .second, .val (.long d0_), .second, .val (.int sel), .val (.int pick), .val (.int (3 : Int32)), .val (.long a0_), .second, .val (.long b), .second, .val (.long c), .second, .val (.long d), .second, .val (.ref ad1), .val (.ref ad32), .val (.int (-1 : Int32)), .val (.long (f1 (f1 a0_ b) c)), .second, .val (.int (1 : Int32)), .unset, .unset, .unset, .unset]) at_228 rfl rfl ?_
            refine OwnW.goto (pc' := 250) at_230 (by decide) (by decide) ?_
            exact J210_250 _ (by first | simp only [if_neg hc210, if_pos hc224] | rfl)
          ·
            refine OwnW.ifcY (pc' := 233) at_224 ((if0 _ _).trans (feq hc224).2) (by decide) (by decide) ?_
            refine OwnW.lload (pc' := 235) at_233 rfl rfl ?_
            refine OwnW.lload (pc' := 237) at_235 rfl rfl ?_
            refine OwnW.lcmp (pc' := 238) at_237 rfl ?_
            by_cases hc238 : (lcmpW c (f1 (f1 a0_ b) c)) = (0 : Int32)
            ·
              refine OwnW.ifcN (pc' := 241) at_238 ((if0 _ _).trans (teq hc238).2) rfl ?_
              refine OwnW.iconst (pc' := 242) (v := (2 : Int32)) at_241 rfl rfl ?_
              refine OwnW.istore (pc' := 244) (L' := #[.val (.long a0_), .second, .val (.long b0_), .second, .val (.long c0_), .second, .val (.long d0_), .second, .val (.int sel), .val (.int pick), .val (.int (3 : Int32)), .val (.long a0_), .second, .val (.long b), .second, .val (.long c), .second, .val (.long d), .second, .val (.ref ad1), .val (.ref ad32), .val (.int (-1 : Int32)), .val (.long (f1 (f1 a0_ b) c)), .second, .val (.int (2 : Int32)), .unset, .unset, .unset, .unset]) at_242 rfl rfl ?_
              refine OwnW.goto (pc' := 250) at_244 (by decide) (by decide) ?_
              exact J210_250 _ (by first | simp only [if_neg hc210, if_neg hc224, if_pos hc238] | rfl)
            ·
              refine OwnW.ifcY (pc' := 247) at_238 ((if0 _ _).trans (feq hc238).2) (by decide) (by decide) ?_
              refine OwnW.iconst (pc' := 248) (v := (3 : Int32)) at_247 rfl rfl ?_
              refine OwnW.istore (pc' := 250) (L' := #[.val (.long a0_), .second, .val (.long b0_), .second, .val (.long c0_), .second, .val (.long d0_), .second, .val (.int sel), .val (.int pick), .val (.int (3 : Int32)), .val (.long a0_), .second, .val (.long b), .second, .val (.long c), .second, .val (.long d), .second, .val (.ref ad1), .val (.ref ad32), .val (.int (-1 : Int32)), .val (.long (f1 (f1 a0_ b) c)), .second, .val (.int (3 : Int32)), .unset, .unset, .unset, .unset]) at_248 rfl rfl ?_
              exact J210_250 _ (by first | simp only [if_neg hc210, if_neg hc224, if_neg hc238] | rfl)
      intro fi hfi
      refine OwnW.iload (pc' := 252) at_250 rfl rfl ?_
      refine OwnW.ifcY (pc' := 270) at_252 ((if0 _ _).trans (tlt (by decide)).1) (by decide) (by decide) ?_
      refine OwnW.iconst (pc' := 271) (v := (0 : Int32)) at_270 rfl rfl ?_
      refine OwnW.istore (pc' := 273) (L' := #[.val (.long a0_), .second, .val (.long b0_), .second, .val (.long c0_), .second, .val (.long d0_), .second, .val (.int sel), .val (.int pick), .val (.int (3 : Int32)), .val (.long a0_), .second, .val (.long b), .second, .val (.long c), .second, .val (.long d), .second, .val (.ref ad1), .val (.ref ad32), .val (.int (-1 : Int32)), .val (.long (f1 (f1 a0_ b) c)), .second, .val (.int fi), .val (.int (0 : Int32)), .unset, .unset, .unset]) at_271 rfl rfl ?_
      refine OwnW.iload (pc' := 275) at_273 rfl rfl ?_
      refine OwnW.ifcY (pc' := 283) at_275 ((if0 _ _).trans (teq (by decide)).1) (by decide) (by decide) ?_
      refine OwnW.iload (pc' := 285) at_283 rfl rfl ?_
      refine OwnW.istore (pc' := 287) (L' := #[.val (.long a0_), .second, .val (.long b0_), .second, .val (.long c0_), .second, .val (.long d0_), .second, .val (.int sel), .val (.int pick), .val (.int (3 : Int32)), .val (.long a0_), .second, .val (.long b), .second, .val (.long c), .second, .val (.long d), .second, .val (.ref ad1), .val (.ref ad32), .val (.int (-1 : Int32)), .val (.long (f1 (f1 a0_ b) c)), .second, .val (.int fi), .val (.int (0 : Int32)), .val (.int fi), .unset, .unset]) at_285 rfl rfl ?_
      refine OwnW.aload (pc' := 289) at_287 rfl (rfl) rfl ?_
      refine OwnW.iload (pc' := 291) at_289 rfl rfl ?_
      refine OwnW.callS0 (a0 := a0) (pc' := 294) (W := 0) (k' := 2) (n' := 7) (argsL := [(.ref ad32), (.int (-1 : Int32))]) (rest := []) (St' := [(.int (f2_3_0 ad32 kc32 a0_ b c))]) at_291 (hw _ (List.mem_of_getElem? (i := 6) rfl)) (hw _ (List.mem_of_getElem? (i := 7) rfl)) (hw _ (List.mem_of_getElem? (i := 8) rfl)) (hw _ (List.mem_of_getElem? (i := 9) rfl)) (by decide) (rm2_3_0 l Z a0 hw ad32 kc32 a0_ b c h37 n0 V37) (by decide) (by decide) rfl rfl (by decide) (by decide) rfl pd_285bJI29I rfl rfl rfl (Nat.le_of_ble_eq_true rfl) rfl rfl ?_
      refine OwnW.istore (pc' := 296) (L' := #[.val (.long a0_), .second, .val (.long b0_), .second, .val (.long c0_), .second, .val (.long d0_), .second, .val (.int sel), .val (.int pick), .val (.int (3 : Int32)), .val (.long a0_), .second, .val (.long b), .second, .val (.long c), .second, .val (.long d), .second, .val (.ref ad1), .val (.ref ad32), .val (.int (-1 : Int32)), .val (.long (f1 (f1 a0_ b) c)), .second, .val (.int fi), .val (.int (0 : Int32)), .val (.int fi), .val (.int (f2_3_0 ad32 kc32 a0_ b c)), .unset]) at_294 rfl rfl ?_
      refine OwnW.aload (pc' := 298) at_296 rfl (rfl) rfl ?_
      refine OwnW.iconst (pc' := 299) (v := (0 : Int32)) at_298 rfl rfl ?_
      obtain ⟨cl39, Ar39, qk39, Sz39, Mn39, Hv39, Gf39⟩ := id V37
      refine OwnW.laload (pc' := 300) (v := (.long a0_)) at_299 Ar39 (inb_of Sz39 ⟨by decide, by decide⟩) (Hv39.at (inb_of Sz39 ⟨by decide, by decide⟩) rfl) rfl ?_
      refine OwnW.lload (pc' := 302) at_300 rfl rfl ?_
      refine OwnW.lcmp (pc' := 303) at_302 rfl ?_
      refine OwnW.ifcN (pc' := 306) at_303 ((if0 _ _).trans (teq ((lw_eq _ _).mpr rfl)).2) rfl ?_
      refine OwnW.iconst (pc' := 307) (v := (1 : Int32)) at_306 rfl rfl ?_
      refine OwnW.goto (pc' := 311) at_307 (by decide) (by decide) ?_
      refine OwnW.istore (pc' := 313) (L' := #[.val (.long a0_), .second, .val (.long b0_), .second, .val (.long c0_), .second, .val (.long d0_), .second, .val (.int sel), .val (.int pick), .val (.int (3 : Int32)), .val (.long a0_), .second, .val (.long b), .second, .val (.long c), .second, .val (.long d), .second, .val (.ref ad1), .val (.ref ad32), .val (.int (-1 : Int32)), .val (.long (f1 (f1 a0_ b) c)), .second, .val (.int fi), .val (.int (0 : Int32)), .val (.int fi), .val (.int (f2_3_0 ad32 kc32 a0_ b c)), .val (.int (1 : Int32))]) at_311 rfl rfl ?_
      refine OwnW.iload (pc' := 315) at_313 rfl rfl ?_
      refine OwnW.iconst (pc' := 316) (v := (1 : Int32)) at_315 rfl rfl ?_
      refine OwnW.icmpN (pc' := 319) at_316 (tlt (by decide)).2.2.2 rfl ?_
      refine OwnW.iload (pc' := 321) at_319 rfl rfl ?_
      refine OwnW.ifcN (pc' := 324) at_321 ((if0 _ _).trans (feq (by decide)).1) rfl ?_
      refine OwnW.aload (pc' := 326) at_324 rfl (rfl) rfl ?_
      refine OwnW.iconst (pc' := 327) (v := (1 : Int32)) at_326 rfl rfl ?_
      obtain ⟨cl40, Ar40, qk40, Sz40, Mn40, Hv40, Gf40⟩ := id V37
      refine OwnW.laload (pc' := 328) (v := (.long b)) at_327 Ar40 (inb_of Sz40 ⟨by decide, by decide⟩) (Hv40.at (inb_of Sz40 ⟨by decide, by decide⟩) rfl) rfl ?_
      refine OwnW.lload (pc' := 330) at_328 rfl rfl ?_
      refine OwnW.lcmp (pc' := 331) at_330 rfl ?_
      refine OwnW.ifcN (pc' := 334) at_331 ((if0 _ _).trans (teq ((lw_eq _ _).mpr rfl)).2) rfl ?_
      refine OwnW.iconst (pc' := 335) (v := (1 : Int32)) at_334 rfl rfl ?_
      refine OwnW.goto (pc' := 339) at_335 (by decide) (by decide) ?_
      refine OwnW.istore (pc' := 341) (L' := #[.val (.long a0_), .second, .val (.long b0_), .second, .val (.long c0_), .second, .val (.long d0_), .second, .val (.int sel), .val (.int pick), .val (.int (3 : Int32)), .val (.long a0_), .second, .val (.long b), .second, .val (.long c), .second, .val (.long d), .second, .val (.ref ad1), .val (.ref ad32), .val (.int (-1 : Int32)), .val (.long (f1 (f1 a0_ b) c)), .second, .val (.int fi), .val (.int (0 : Int32)), .val (.int fi), .val (.int (f2_3_0 ad32 kc32 a0_ b c)), .val (.int (1 : Int32))]) at_339 rfl rfl ?_
      refine OwnW.iload (pc' := 343) at_341 rfl rfl ?_
      refine OwnW.iconst (pc' := 344) (v := (2 : Int32)) at_343 rfl rfl ?_
      refine OwnW.icmpN (pc' := 347) at_344 (tlt (by decide)).2.2.2 rfl ?_
      refine OwnW.iload (pc' := 349) at_347 rfl rfl ?_
      refine OwnW.ifcN (pc' := 352) at_349 ((if0 _ _).trans (feq (by decide)).1) rfl ?_
      refine OwnW.aload (pc' := 354) at_352 rfl (rfl) rfl ?_
      refine OwnW.iconst (pc' := 355) (v := (2 : Int32)) at_354 rfl rfl ?_
      obtain ⟨cl41, Ar41, qk41, Sz41, Mn41, Hv41, Gf41⟩ := id V37
      refine OwnW.laload (pc' := 356) (v := (.long c)) at_355 Ar41 (inb_of Sz41 ⟨by decide, by decide⟩) (Hv41.at (inb_of Sz41 ⟨by decide, by decide⟩) rfl) rfl ?_
      refine OwnW.lload (pc' := 358) at_356 rfl rfl ?_
      refine OwnW.lcmp (pc' := 359) at_358 rfl ?_
      refine OwnW.ifcN (pc' := 362) at_359 ((if0 _ _).trans (teq ((lw_eq _ _).mpr rfl)).2) rfl ?_
      refine OwnW.iconst (pc' := 363) (v := (1 : Int32)) at_362 rfl rfl ?_
      refine OwnW.goto (pc' := 367) at_363 (by decide) (by decide) ?_
      refine OwnW.istore (pc' := 369) (L' := #[.val (.long a0_), .second, .val (.long b0_), .second, .val (.long c0_), .second, .val (.long d0_), .second, .val (.int sel), .val (.int pick), .val (.int (3 : Int32)), .val (.long a0_), .second, .val (.long b), .second, .val (.long c), .second, .val (.long d), .second, .val (.ref ad1), .val (.ref ad32), .val (.int (-1 : Int32)), .val (.long (f1 (f1 a0_ b) c)), .second, .val (.int fi), .val (.int (0 : Int32)), .val (.int fi), .val (.int (f2_3_0 ad32 kc32 a0_ b c)), .val (.int (1 : Int32))]) at_367 rfl rfl ?_
      refine OwnW.iload (pc' := 371) at_369 rfl rfl ?_
      refine OwnW.iconst (pc' := 372) (v := (3 : Int32)) at_371 rfl rfl ?_
      refine OwnW.icmpY (pc' := 397) at_372 (flt (by decide)).2.2.2 (by decide) (by decide) ?_
      refine OwnW.iload (pc' := 399) at_397 rfl rfl ?_
      refine OwnW.iload (pc' := 401) at_399 rfl rfl ?_
      by_cases hc401 : (f2_3_0 ad32 kc32 a0_ b c) = fi
      ·
        refine OwnW.icmpN (pc' := 404) at_401 (teq hc401).2 rfl ?_
        refine OwnW.iload (pc' := 406) at_404 rfl rfl ?_
        refine OwnW.ifcN (pc' := 409) at_406 ((if0 _ _).trans (feq (by decide)).1) rfl ?_
        refine OwnW.iconst (pc' := 410) (v := (1 : Int32)) at_409 rfl rfl ?_
        refine OwnW.goto (pc' := 414) at_410 (by decide) (by decide) ?_
        exact OwnW.retN (t := .boolean) at_414 rfl (by simp) rfl (by decide) (by decide) (rfl)
      ·
        refine OwnW.icmpY (pc' := 413) at_401 (feq hc401).2 (by decide) (by decide) ?_
        refine OwnW.iconst (pc' := 414) (v := (0 : Int32)) at_413 rfl rfl ?_
        exact OwnW.retN (t := .boolean) at_414 rfl (by simp) rfl (by decide) (by decide) (absurd (own_law3_0 (d := d) hfi ) hc401)
    ·
      show GoB0 l Z n0 OwnW.One1 h37 2 7 156 #[.val (.long a0_), .second, .val (.long b0_), .second, .val (.long c0_), .second, .val (.long d0_), .second, .val (.int sel), .val (.int pick), .val (.int (3 : Int32)), .val (.long a0_), .second, .val (.long b), .second, .val (.long c), .second, .val (.long d), .second, .val (.ref ad1), .val (.ref ad32), .val (.int (0 : Int32)), .unset, .unset, .unset, .unset, .unset, .unset, .unset] []
      refine OwnW.lload (pc' := 158) at_156 rfl rfl ?_
      refine OwnW.lstore (pc' := 160) (L' := #[.val (.long a0_), .second, .val (.long b0_), .second, .val (.long c0_), .second, .val (.long d0_), .second, .val (.int sel), .val (.int pick), .val (.int (3 : Int32)), .val (.long a0_), .second, .val (.long b), .second, .val (.long c), .second, .val (.long d), .second, .val (.ref ad1), .val (.ref ad32), .val (.int (0 : Int32)), .val (.long a0_), .second, .unset, .unset, .unset, .unset, .unset]) at_158 rfl rfl ?_
      refine OwnW.iload (pc' := 162) at_160 rfl rfl ?_
      refine OwnW.iconst (pc' := 163) (v := (1 : Int32)) at_162 rfl rfl ?_
      refine OwnW.icmpN (pc' := 166) at_163 (tlt (by decide)).2.2.2 rfl ?_
      refine OwnW.lload (pc' := 168) at_166 rfl rfl ?_
      refine OwnW.lload (pc' := 170) at_168 rfl rfl ?_
      refine OwnW.callS0 (a0 := a0) (pc' := 173) (W := 0) (k' := 2) (n' := 7) (argsL := [(.long a0_), (.long b)]) (rest := []) (St' := [(.long (f1 a0_ b))]) at_170 (hw _ (List.mem_of_getElem? (i := 2) rfl)) (hw _ (List.mem_of_getElem? (i := 3) rfl)) (hw _ (List.mem_of_getElem? (i := 4) rfl)) (hw _ (List.mem_of_getElem? (i := 5) rfl)) (by decide) (rm1 l Z a0 hw a0_ b h37 n0) (by decide) (by decide) rfl rfl (by decide) (by decide) rfl pd_28JJ29J rfl rfl rfl (Nat.le_of_ble_eq_true rfl) rfl rfl ?_
      refine OwnW.lstore (pc' := 175) (L' := #[.val (.long a0_), .second, .val (.long b0_), .second, .val (.long c0_), .second, .val (.long d0_), .second, .val (.int sel), .val (.int pick), .val (.int (3 : Int32)), .val (.long a0_), .second, .val (.long b), .second, .val (.long c), .second, .val (.long d), .second, .val (.ref ad1), .val (.ref ad32), .val (.int (0 : Int32)), .val (.long (f1 a0_ b)), .second, .unset, .unset, .unset, .unset, .unset]) at_173 rfl rfl ?_
      refine OwnW.iload (pc' := 177) at_175 rfl rfl ?_
      refine OwnW.iconst (pc' := 178) (v := (2 : Int32)) at_177 rfl rfl ?_
      refine OwnW.icmpN (pc' := 181) at_178 (tlt (by decide)).2.2.2 rfl ?_
      refine OwnW.lload (pc' := 183) at_181 rfl rfl ?_
      refine OwnW.lload (pc' := 185) at_183 rfl rfl ?_
      refine OwnW.callS0 (a0 := a0) (pc' := 188) (W := 0) (k' := 2) (n' := 7) (argsL := [(.long (f1 a0_ b)), (.long c)]) (rest := []) (St' := [(.long (f1 (f1 a0_ b) c))]) at_185 (hw _ (List.mem_of_getElem? (i := 2) rfl)) (hw _ (List.mem_of_getElem? (i := 3) rfl)) (hw _ (List.mem_of_getElem? (i := 4) rfl)) (hw _ (List.mem_of_getElem? (i := 5) rfl)) (by decide) (rm1 l Z a0 hw (f1 a0_ b) c h37 n0) (by decide) (by decide) rfl rfl (by decide) (by decide) rfl pd_28JJ29J rfl rfl rfl (Nat.le_of_ble_eq_true rfl) rfl rfl ?_
      refine OwnW.lstore (pc' := 190) (L' := #[.val (.long a0_), .second, .val (.long b0_), .second, .val (.long c0_), .second, .val (.long d0_), .second, .val (.int sel), .val (.int pick), .val (.int (3 : Int32)), .val (.long a0_), .second, .val (.long b), .second, .val (.long c), .second, .val (.long d), .second, .val (.ref ad1), .val (.ref ad32), .val (.int (0 : Int32)), .val (.long (f1 (f1 a0_ b) c)), .second, .unset, .unset, .unset, .unset, .unset]) at_188 rfl rfl ?_
      refine OwnW.iload (pc' := 192) at_190 rfl rfl ?_
      refine OwnW.iconst (pc' := 193) (v := (3 : Int32)) at_192 rfl rfl ?_
      refine OwnW.icmpY (pc' := 205) at_193 (flt (by decide)).2.2.2 (by decide) (by decide) ?_
      refine OwnW.lload (pc' := 207) at_205 rfl rfl ?_
      refine OwnW.lload (pc' := 209) at_207 rfl rfl ?_
      refine OwnW.lcmp (pc' := 210) at_209 rfl ?_
      suffices J210_250 : ∀ (fi : Int32), fi = (if (lcmpW a0_ (f1 (f1 a0_ b) c)) = (0 : Int32) then (0 : Int32) else (if (lcmpW b (f1 (f1 a0_ b) c)) = (0 : Int32) then (1 : Int32) else (if (lcmpW c (f1 (f1 a0_ b) c)) = (0 : Int32) then (2 : Int32) else (3 : Int32)))) → GoB0 l Z n0 OwnW.One1 h37 2 7 250 #[.val (.long a0_), .second, .val (.long b0_), .second, .val (.long c0_), .second, .val (.long d0_), .second, .val (.int sel), .val (.int pick), .val (.int (3 : Int32)), .val (.long a0_), .second, .val (.long b), .second, .val (.long c), .second, .val (.long d), .second, .val (.ref ad1), .val (.ref ad32), .val (.int (0 : Int32)), .val (.long (f1 (f1 a0_ b) c)), .second, .val (.int fi), .unset, .unset, .unset, .unset] [] by
        by_cases hc210 : (lcmpW a0_ (f1 (f1 a0_ b) c)) = (0 : Int32)
        ·
          refine OwnW.ifcN (pc' := 213) at_210 ((if0 _ _).trans (teq hc210).2) rfl ?_
          refine OwnW.iconst (pc' := 214) (v := (0 : Int32)) at_213 rfl rfl ?_
          refine OwnW.istore (pc' := 216) (L' := #[.val (.long a0_), .second, .val (.long b0_), .second, .val (.long c0_), .second, .val (.long d0_), .second, .val (.int sel), .val (.int pick), .val (.int (3 : Int32)), .val (.long a0_), .second, .val (.long b), .second, .val (.long c), .second, .val (.long d), .second, .val (.ref ad1), .val (.ref ad32), .val (.int (0 : Int32)), .val (.long (f1 (f1 a0_ b) c)), .second, .val (.int (0 : Int32)), .unset, .unset, .unset, .unset]) at_214 rfl rfl ?_
          refine OwnW.goto (pc' := 250) at_216 (by decide) (by decide) ?_
          exact J210_250 _ (by first | simp only [if_pos hc210] | rfl)
        ·
          refine OwnW.ifcY (pc' := 219) at_210 ((if0 _ _).trans (feq hc210).2) (by decide) (by decide) ?_
          refine OwnW.lload (pc' := 221) at_219 rfl rfl ?_
          refine OwnW.lload (pc' := 223) at_221 rfl rfl ?_
          refine OwnW.lcmp (pc' := 224) at_223 rfl ?_
          by_cases hc224 : (lcmpW b (f1 (f1 a0_ b) c)) = (0 : Int32)
          ·
            refine OwnW.ifcN (pc' := 227) at_224 ((if0 _ _).trans (teq hc224).2) rfl ?_
            refine OwnW.iconst (pc' := 228) (v := (1 : Int32)) at_227 rfl rfl ?_
            refine OwnW.istore (pc' := 230) (L' := #[.val (.long a0_), .second, .val (.long b0_), .second, .val (.long c0_), .second, .val (.long d0_), .second, .val (.int sel), .val (.int pick), .val (.int (3 : Int32)), .val (.long a0_), .second, .val (.long b), .second, .val (.long c), .second, .val (.long d), .second, .val (.ref ad1), .val (.ref ad32), .val (.int (0 : Int32)), .val (.long (f1 (f1 a0_ b) c)), .second, .val (.int (1 : Int32)), .unset, .unset, .unset, .unset]) at_228 rfl rfl ?_
            refine OwnW.goto (pc' := 250) at_230 (by decide) (by decide) ?_
            exact J210_250 _ (by first | simp only [if_neg hc210, if_pos hc224] | rfl)
          ·
            refine OwnW.ifcY (pc' := 233) at_224 ((if0 _ _).trans (feq hc224).2) (by decide) (by decide) ?_
            refine OwnW.lload (pc' := 235) at_233 rfl rfl ?_
            refine OwnW.lload (pc' := 237) at_235 rfl rfl ?_
            refine OwnW.lcmp (pc' := 238) at_237 rfl ?_
            by_cases hc238 : (lcmpW c (f1 (f1 a0_ b) c)) = (0 : Int32)
            ·
              refine OwnW.ifcN (pc' := 241) at_238 ((if0 _ _).trans (teq hc238).2) rfl ?_
              refine OwnW.iconst (pc' := 242) (v := (2 : Int32)) at_241 rfl rfl ?_
              refine OwnW.istore (pc' := 244) (L' := #[.val (.long a0_), .second, .val (.long b0_), .second, .val (.long c0_), .second, .val (.long d0_), .second, .val (.int sel), .val (.int pick), .val (.int (3 : Int32)), .val (.long a0_), .second, .val (.long b), .second, .val (.long c), .second, .val (.long d), .second, .val (.ref ad1), .val (.ref ad32), .val (.int (0 : Int32)), .val (.long (f1 (f1 a0_ b) c)), .second, .val (.int (2 : Int32)), .unset, .unset, .unset, .unset]) at_242 rfl rfl ?_
              refine OwnW.goto (pc' := 250) at_244 (by decide) (by decide) ?_
              exact J210_250 _ (by first | simp only [if_neg hc210, if_neg hc224, if_pos hc238] | rfl)
            ·
              refine OwnW.ifcY (pc' := 247) at_238 ((if0 _ _).trans (feq hc238).2) (by decide) (by decide) ?_
              refine OwnW.iconst (pc' := 248) (v := (3 : Int32)) at_247 rfl rfl ?_
              refine OwnW.istore (pc' := 250) (L' := #[.val (.long a0_), .second, .val (.long b0_), .second, .val (.long c0_), .second, .val (.long d0_), .second, .val (.int sel), .val (.int pick), .val (.int (3 : Int32)), .val (.long a0_), .second, .val (.long b), .second, .val (.long c), .second, .val (.long d), .second, .val (.ref ad1), .val (.ref ad32), .val (.int (0 : Int32)), .val (.long (f1 (f1 a0_ b) c)), .second, .val (.int (3 : Int32)), .unset, .unset, .unset, .unset]) at_248 rfl rfl ?_
              exact J210_250 _ (by first | simp only [if_neg hc210, if_neg hc224, if_neg hc238] | rfl)
      intro fi hfi
      refine OwnW.iload (pc' := 252) at_250 rfl rfl ?_
      refine OwnW.ifcN (pc' := 255) at_252 ((if0 _ _).trans (flt (by decide)).1) rfl ?_
      refine OwnW.aload (pc' := 257) at_255 rfl (rfl) rfl ?_
      refine OwnW.iload (pc' := 259) at_257 rfl rfl ?_
      have F42 := ((((V8.ext E32).other W33 (Nat.ne_of_lt lt_ad1_ad32)).other W35 (Nat.ne_of_lt lt_ad1_ad32)).other W37 (Nat.ne_of_lt lt_ad1_ad32))
      obtain ⟨cl43, Ar43, qk43, Sz43, Mn43, Hv43, Gf43⟩ := id F42
      refine OwnW.laload (pc' := 260) (v := (.long a0_)) at_259 Ar43 (inb_of Sz43 ⟨by decide, by decide⟩) (Hv43.at (inb_of Sz43 ⟨by decide, by decide⟩) rfl) rfl ?_
      refine OwnW.lload (pc' := 262) at_260 rfl rfl ?_
      refine OwnW.lcmp (pc' := 263) at_262 rfl ?_
      suffices J263_271 : ∀ (kp : Int32), kp = (if (lcmpW a0_ (f1 (f1 a0_ b) c)) = (0 : Int32) then (1 : Int32) else (0 : Int32)) → GoB0 l Z n0 OwnW.One1 h37 2 7 271 #[.val (.long a0_), .second, .val (.long b0_), .second, .val (.long c0_), .second, .val (.long d0_), .second, .val (.int sel), .val (.int pick), .val (.int (3 : Int32)), .val (.long a0_), .second, .val (.long b), .second, .val (.long c), .second, .val (.long d), .second, .val (.ref ad1), .val (.ref ad32), .val (.int (0 : Int32)), .val (.long (f1 (f1 a0_ b) c)), .second, .val (.int fi), .unset, .unset, .unset, .unset] [(.int kp)] by
        by_cases hc263 : (lcmpW a0_ (f1 (f1 a0_ b) c)) = (0 : Int32)
        ·
          refine OwnW.ifcN (pc' := 266) at_263 ((if0 _ _).trans (teq hc263).2) rfl ?_
          refine OwnW.iconst (pc' := 267) (v := (1 : Int32)) at_266 rfl rfl ?_
          refine OwnW.goto (pc' := 271) at_267 (by decide) (by decide) ?_
          exact J263_271 _ (by first | simp only [if_pos hc263] | rfl)
        ·
          refine OwnW.ifcY (pc' := 270) at_263 ((if0 _ _).trans (feq hc263).2) (by decide) (by decide) ?_
          refine OwnW.iconst (pc' := 271) (v := (0 : Int32)) at_270 rfl rfl ?_
          exact J263_271 _ (by first | simp only [if_neg hc263] | rfl)
      intro kp hkp
      refine OwnW.istore (pc' := 273) (L' := #[.val (.long a0_), .second, .val (.long b0_), .second, .val (.long c0_), .second, .val (.long d0_), .second, .val (.int sel), .val (.int pick), .val (.int (3 : Int32)), .val (.long a0_), .second, .val (.long b), .second, .val (.long c), .second, .val (.long d), .second, .val (.ref ad1), .val (.ref ad32), .val (.int (0 : Int32)), .val (.long (f1 (f1 a0_ b) c)), .second, .val (.int fi), .val (.int kp), .unset, .unset, .unset]) at_271 rfl rfl ?_
      refine OwnW.iload (pc' := 275) at_273 rfl rfl ?_
      suffices J275_285 : ∀ (ex : Int32), ex = (if kp = (0 : Int32) then fi else (0 : Int32)) → GoB0 l Z n0 OwnW.One1 h37 2 7 285 #[.val (.long a0_), .second, .val (.long b0_), .second, .val (.long c0_), .second, .val (.long d0_), .second, .val (.int sel), .val (.int pick), .val (.int (3 : Int32)), .val (.long a0_), .second, .val (.long b), .second, .val (.long c), .second, .val (.long d), .second, .val (.ref ad1), .val (.ref ad32), .val (.int (0 : Int32)), .val (.long (f1 (f1 a0_ b) c)), .second, .val (.int fi), .val (.int kp), .unset, .unset, .unset] [(.int ex)] by
        by_cases hc275 : kp = (0 : Int32)
        ·
          refine OwnW.ifcY (pc' := 283) at_275 ((if0 _ _).trans (teq hc275).1) (by decide) (by decide) ?_
          refine OwnW.iload (pc' := 285) at_283 rfl rfl ?_
          exact J275_285 _ (by first | simp only [if_pos hc275] | rfl)
        ·
          refine OwnW.ifcN (pc' := 278) at_275 ((if0 _ _).trans (feq hc275).1) rfl ?_
          refine OwnW.iload (pc' := 280) at_278 rfl rfl ?_
          refine OwnW.goto (pc' := 285) at_280 (by decide) (by decide) ?_
          exact J275_285 _ (by first | simp only [if_neg hc275] | rfl)
      intro ex hex
      refine OwnW.istore (pc' := 287) (L' := #[.val (.long a0_), .second, .val (.long b0_), .second, .val (.long c0_), .second, .val (.long d0_), .second, .val (.int sel), .val (.int pick), .val (.int (3 : Int32)), .val (.long a0_), .second, .val (.long b), .second, .val (.long c), .second, .val (.long d), .second, .val (.ref ad1), .val (.ref ad32), .val (.int (0 : Int32)), .val (.long (f1 (f1 a0_ b) c)), .second, .val (.int fi), .val (.int kp), .val (.int ex), .unset, .unset]) at_285 rfl rfl ?_
      refine OwnW.aload (pc' := 289) at_287 rfl (rfl) rfl ?_
      refine OwnW.iload (pc' := 291) at_289 rfl rfl ?_
      refine OwnW.callS0 (a0 := a0) (pc' := 294) (W := 0) (k' := 2) (n' := 7) (argsL := [(.ref ad32), (.int (0 : Int32))]) (rest := []) (St' := [(.int (f2_3_1 ad32 kc32 a0_ b c))]) at_291 (hw _ (List.mem_of_getElem? (i := 6) rfl)) (hw _ (List.mem_of_getElem? (i := 7) rfl)) (hw _ (List.mem_of_getElem? (i := 8) rfl)) (hw _ (List.mem_of_getElem? (i := 9) rfl)) (by decide) (rm2_3_1 l Z a0 hw ad32 kc32 a0_ b c h37 n0 V37) (by decide) (by decide) rfl rfl (by decide) (by decide) rfl pd_285bJI29I rfl rfl rfl (Nat.le_of_ble_eq_true rfl) rfl rfl ?_
      refine OwnW.istore (pc' := 296) (L' := #[.val (.long a0_), .second, .val (.long b0_), .second, .val (.long c0_), .second, .val (.long d0_), .second, .val (.int sel), .val (.int pick), .val (.int (3 : Int32)), .val (.long a0_), .second, .val (.long b), .second, .val (.long c), .second, .val (.long d), .second, .val (.ref ad1), .val (.ref ad32), .val (.int (0 : Int32)), .val (.long (f1 (f1 a0_ b) c)), .second, .val (.int fi), .val (.int kp), .val (.int ex), .val (.int (f2_3_1 ad32 kc32 a0_ b c)), .unset]) at_294 rfl rfl ?_
      refine OwnW.aload (pc' := 298) at_296 rfl (rfl) rfl ?_
      refine OwnW.iconst (pc' := 299) (v := (0 : Int32)) at_298 rfl rfl ?_
      obtain ⟨cl44, Ar44, qk44, Sz44, Mn44, Hv44, Gf44⟩ := id V37
      refine OwnW.laload (pc' := 300) (v := (.long a0_)) at_299 Ar44 (inb_of Sz44 ⟨by decide, by decide⟩) (Hv44.at (inb_of Sz44 ⟨by decide, by decide⟩) rfl) rfl ?_
      refine OwnW.lload (pc' := 302) at_300 rfl rfl ?_
      refine OwnW.lcmp (pc' := 303) at_302 rfl ?_
      refine OwnW.ifcN (pc' := 306) at_303 ((if0 _ _).trans (teq ((lw_eq _ _).mpr rfl)).2) rfl ?_
      refine OwnW.iconst (pc' := 307) (v := (1 : Int32)) at_306 rfl rfl ?_
      refine OwnW.goto (pc' := 311) at_307 (by decide) (by decide) ?_
      refine OwnW.istore (pc' := 313) (L' := #[.val (.long a0_), .second, .val (.long b0_), .second, .val (.long c0_), .second, .val (.long d0_), .second, .val (.int sel), .val (.int pick), .val (.int (3 : Int32)), .val (.long a0_), .second, .val (.long b), .second, .val (.long c), .second, .val (.long d), .second, .val (.ref ad1), .val (.ref ad32), .val (.int (0 : Int32)), .val (.long (f1 (f1 a0_ b) c)), .second, .val (.int fi), .val (.int kp), .val (.int ex), .val (.int (f2_3_1 ad32 kc32 a0_ b c)), .val (.int (1 : Int32))]) at_311 rfl rfl ?_
      refine OwnW.iload (pc' := 315) at_313 rfl rfl ?_
      refine OwnW.iconst (pc' := 316) (v := (1 : Int32)) at_315 rfl rfl ?_
      refine OwnW.icmpN (pc' := 319) at_316 (tlt (by decide)).2.2.2 rfl ?_
      refine OwnW.iload (pc' := 321) at_319 rfl rfl ?_
      refine OwnW.ifcN (pc' := 324) at_321 ((if0 _ _).trans (feq (by decide)).1) rfl ?_
      refine OwnW.aload (pc' := 326) at_324 rfl (rfl) rfl ?_
      refine OwnW.iconst (pc' := 327) (v := (1 : Int32)) at_326 rfl rfl ?_
      obtain ⟨cl45, Ar45, qk45, Sz45, Mn45, Hv45, Gf45⟩ := id V37
      refine OwnW.laload (pc' := 328) (v := (.long b)) at_327 Ar45 (inb_of Sz45 ⟨by decide, by decide⟩) (Hv45.at (inb_of Sz45 ⟨by decide, by decide⟩) rfl) rfl ?_
      refine OwnW.lload (pc' := 330) at_328 rfl rfl ?_
      refine OwnW.lcmp (pc' := 331) at_330 rfl ?_
      refine OwnW.ifcN (pc' := 334) at_331 ((if0 _ _).trans (teq ((lw_eq _ _).mpr rfl)).2) rfl ?_
      refine OwnW.iconst (pc' := 335) (v := (1 : Int32)) at_334 rfl rfl ?_
      refine OwnW.goto (pc' := 339) at_335 (by decide) (by decide) ?_
      refine OwnW.istore (pc' := 341) (L' := #[.val (.long a0_), .second, .val (.long b0_), .second, .val (.long c0_), .second, .val (.long d0_), .second, .val (.int sel), .val (.int pick), .val (.int (3 : Int32)), .val (.long a0_), .second, .val (.long b), .second, .val (.long c), .second, .val (.long d), .second, .val (.ref ad1), .val (.ref ad32), .val (.int (0 : Int32)), .val (.long (f1 (f1 a0_ b) c)), .second, .val (.int fi), .val (.int kp), .val (.int ex), .val (.int (f2_3_1 ad32 kc32 a0_ b c)), .val (.int (1 : Int32))]) at_339 rfl rfl ?_
      refine OwnW.iload (pc' := 343) at_341 rfl rfl ?_
      refine OwnW.iconst (pc' := 344) (v := (2 : Int32)) at_343 rfl rfl ?_
      refine OwnW.icmpN (pc' := 347) at_344 (tlt (by decide)).2.2.2 rfl ?_
      refine OwnW.iload (pc' := 349) at_347 rfl rfl ?_
      refine OwnW.ifcN (pc' := 352) at_349 ((if0 _ _).trans (feq (by decide)).1) rfl ?_
      refine OwnW.aload (pc' := 354) at_352 rfl (rfl) rfl ?_
      refine OwnW.iconst (pc' := 355) (v := (2 : Int32)) at_354 rfl rfl ?_
      obtain ⟨cl46, Ar46, qk46, Sz46, Mn46, Hv46, Gf46⟩ := id V37
      refine OwnW.laload (pc' := 356) (v := (.long c)) at_355 Ar46 (inb_of Sz46 ⟨by decide, by decide⟩) (Hv46.at (inb_of Sz46 ⟨by decide, by decide⟩) rfl) rfl ?_
      refine OwnW.lload (pc' := 358) at_356 rfl rfl ?_
      refine OwnW.lcmp (pc' := 359) at_358 rfl ?_
      refine OwnW.ifcN (pc' := 362) at_359 ((if0 _ _).trans (teq ((lw_eq _ _).mpr rfl)).2) rfl ?_
      refine OwnW.iconst (pc' := 363) (v := (1 : Int32)) at_362 rfl rfl ?_
      refine OwnW.goto (pc' := 367) at_363 (by decide) (by decide) ?_
      refine OwnW.istore (pc' := 369) (L' := #[.val (.long a0_), .second, .val (.long b0_), .second, .val (.long c0_), .second, .val (.long d0_), .second, .val (.int sel), .val (.int pick), .val (.int (3 : Int32)), .val (.long a0_), .second, .val (.long b), .second, .val (.long c), .second, .val (.long d), .second, .val (.ref ad1), .val (.ref ad32), .val (.int (0 : Int32)), .val (.long (f1 (f1 a0_ b) c)), .second, .val (.int fi), .val (.int kp), .val (.int ex), .val (.int (f2_3_1 ad32 kc32 a0_ b c)), .val (.int (1 : Int32))]) at_367 rfl rfl ?_
      refine OwnW.iload (pc' := 371) at_369 rfl rfl ?_
      refine OwnW.iconst (pc' := 372) (v := (3 : Int32)) at_371 rfl rfl ?_
      refine OwnW.icmpY (pc' := 397) at_372 (flt (by decide)).2.2.2 (by decide) (by decide) ?_
      refine OwnW.iload (pc' := 399) at_397 rfl rfl ?_
      refine OwnW.iload (pc' := 401) at_399 rfl rfl ?_
      by_cases hc401 : (f2_3_1 ad32 kc32 a0_ b c) = ex
      ·
        refine OwnW.icmpN (pc' := 404) at_401 (teq hc401).2 rfl ?_
        refine OwnW.iload (pc' := 406) at_404 rfl rfl ?_
        refine OwnW.ifcN (pc' := 409) at_406 ((if0 _ _).trans (feq (by decide)).1) rfl ?_
        refine OwnW.iconst (pc' := 410) (v := (1 : Int32)) at_409 rfl rfl ?_
        refine OwnW.goto (pc' := 414) at_410 (by decide) (by decide) ?_
        exact OwnW.retN (t := .boolean) at_414 rfl (by simp) rfl (by decide) (by decide) (rfl)
      ·
        refine OwnW.icmpY (pc' := 413) at_401 (feq hc401).2 (by decide) (by decide) ?_
        refine OwnW.iconst (pc' := 414) (v := (0 : Int32)) at_413 rfl rfl ?_
        exact OwnW.retN (t := .boolean) at_414 rfl (by simp) rfl (by decide) (by decide) (absurd (own_law3_1 (d := d) hfi hkp hex) hc401)
    ·
      show GoB0 l Z n0 OwnW.One1 h37 2 7 156 #[.val (.long a0_), .second, .val (.long b0_), .second, .val (.long c0_), .second, .val (.long d0_), .second, .val (.int sel), .val (.int pick), .val (.int (3 : Int32)), .val (.long a0_), .second, .val (.long b), .second, .val (.long c), .second, .val (.long d), .second, .val (.ref ad1), .val (.ref ad32), .val (.int (1 : Int32)), .unset, .unset, .unset, .unset, .unset, .unset, .unset] []
      refine OwnW.lload (pc' := 158) at_156 rfl rfl ?_
      refine OwnW.lstore (pc' := 160) (L' := #[.val (.long a0_), .second, .val (.long b0_), .second, .val (.long c0_), .second, .val (.long d0_), .second, .val (.int sel), .val (.int pick), .val (.int (3 : Int32)), .val (.long a0_), .second, .val (.long b), .second, .val (.long c), .second, .val (.long d), .second, .val (.ref ad1), .val (.ref ad32), .val (.int (1 : Int32)), .val (.long a0_), .second, .unset, .unset, .unset, .unset, .unset]) at_158 rfl rfl ?_
      refine OwnW.iload (pc' := 162) at_160 rfl rfl ?_
      refine OwnW.iconst (pc' := 163) (v := (1 : Int32)) at_162 rfl rfl ?_
      refine OwnW.icmpN (pc' := 166) at_163 (tlt (by decide)).2.2.2 rfl ?_
      refine OwnW.lload (pc' := 168) at_166 rfl rfl ?_
      refine OwnW.lload (pc' := 170) at_168 rfl rfl ?_
      refine OwnW.callS0 (a0 := a0) (pc' := 173) (W := 0) (k' := 2) (n' := 7) (argsL := [(.long a0_), (.long b)]) (rest := []) (St' := [(.long (f1 a0_ b))]) at_170 (hw _ (List.mem_of_getElem? (i := 2) rfl)) (hw _ (List.mem_of_getElem? (i := 3) rfl)) (hw _ (List.mem_of_getElem? (i := 4) rfl)) (hw _ (List.mem_of_getElem? (i := 5) rfl)) (by decide) (rm1 l Z a0 hw a0_ b h37 n0) (by decide) (by decide) rfl rfl (by decide) (by decide) rfl pd_28JJ29J rfl rfl rfl (Nat.le_of_ble_eq_true rfl) rfl rfl ?_
      refine OwnW.lstore (pc' := 175) (L' := #[.val (.long a0_), .second, .val (.long b0_), .second, .val (.long c0_), .second, .val (.long d0_), .second, .val (.int sel), .val (.int pick), .val (.int (3 : Int32)), .val (.long a0_), .second, .val (.long b), .second, .val (.long c), .second, .val (.long d), .second, .val (.ref ad1), .val (.ref ad32), .val (.int (1 : Int32)), .val (.long (f1 a0_ b)), .second, .unset, .unset, .unset, .unset, .unset]) at_173 rfl rfl ?_
      refine OwnW.iload (pc' := 177) at_175 rfl rfl ?_
      refine OwnW.iconst (pc' := 178) (v := (2 : Int32)) at_177 rfl rfl ?_
      refine OwnW.icmpN (pc' := 181) at_178 (tlt (by decide)).2.2.2 rfl ?_
      refine OwnW.lload (pc' := 183) at_181 rfl rfl ?_
      refine OwnW.lload (pc' := 185) at_183 rfl rfl ?_
      refine OwnW.callS0 (a0 := a0) (pc' := 188) (W := 0) (k' := 2) (n' := 7) (argsL := [(.long (f1 a0_ b)), (.long c)]) (rest := []) (St' := [(.long (f1 (f1 a0_ b) c))]) at_185 (hw _ (List.mem_of_getElem? (i := 2) rfl)) (hw _ (List.mem_of_getElem? (i := 3) rfl)) (hw _ (List.mem_of_getElem? (i := 4) rfl)) (hw _ (List.mem_of_getElem? (i := 5) rfl)) (by decide) (rm1 l Z a0 hw (f1 a0_ b) c h37 n0) (by decide) (by decide) rfl rfl (by decide) (by decide) rfl pd_28JJ29J rfl rfl rfl (Nat.le_of_ble_eq_true rfl) rfl rfl ?_
      refine OwnW.lstore (pc' := 190) (L' := #[.val (.long a0_), .second, .val (.long b0_), .second, .val (.long c0_), .second, .val (.long d0_), .second, .val (.int sel), .val (.int pick), .val (.int (3 : Int32)), .val (.long a0_), .second, .val (.long b), .second, .val (.long c), .second, .val (.long d), .second, .val (.ref ad1), .val (.ref ad32), .val (.int (1 : Int32)), .val (.long (f1 (f1 a0_ b) c)), .second, .unset, .unset, .unset, .unset, .unset]) at_188 rfl rfl ?_
      refine OwnW.iload (pc' := 192) at_190 rfl rfl ?_
      refine OwnW.iconst (pc' := 193) (v := (3 : Int32)) at_192 rfl rfl ?_
      refine OwnW.icmpY (pc' := 205) at_193 (flt (by decide)).2.2.2 (by decide) (by decide) ?_
      refine OwnW.lload (pc' := 207) at_205 rfl rfl ?_
      refine OwnW.lload (pc' := 209) at_207 rfl rfl ?_
      refine OwnW.lcmp (pc' := 210) at_209 rfl ?_
      suffices J210_250 : ∀ (fi : Int32), fi = (if (lcmpW a0_ (f1 (f1 a0_ b) c)) = (0 : Int32) then (0 : Int32) else (if (lcmpW b (f1 (f1 a0_ b) c)) = (0 : Int32) then (1 : Int32) else (if (lcmpW c (f1 (f1 a0_ b) c)) = (0 : Int32) then (2 : Int32) else (3 : Int32)))) → GoB0 l Z n0 OwnW.One1 h37 2 7 250 #[.val (.long a0_), .second, .val (.long b0_), .second, .val (.long c0_), .second, .val (.long d0_), .second, .val (.int sel), .val (.int pick), .val (.int (3 : Int32)), .val (.long a0_), .second, .val (.long b), .second, .val (.long c), .second, .val (.long d), .second, .val (.ref ad1), .val (.ref ad32), .val (.int (1 : Int32)), .val (.long (f1 (f1 a0_ b) c)), .second, .val (.int fi), .unset, .unset, .unset, .unset] [] by
        by_cases hc210 : (lcmpW a0_ (f1 (f1 a0_ b) c)) = (0 : Int32)
        ·
          refine OwnW.ifcN (pc' := 213) at_210 ((if0 _ _).trans (teq hc210).2) rfl ?_
          refine OwnW.iconst (pc' := 214) (v := (0 : Int32)) at_213 rfl rfl ?_
          refine OwnW.istore (pc' := 216) (L' := #[.val (.long a0_), .second, .val (.long b0_), .second, .val (.long c0_), .second, .val (.long d0_), .second, .val (.int sel), .val (.int pick), .val (.int (3 : Int32)), .val (.long a0_), .second, .val (.long b), .second, .val (.long c), .second, .val (.long d), .second, .val (.ref ad1), .val (.ref ad32), .val (.int (1 : Int32)), .val (.long (f1 (f1 a0_ b) c)), .second, .val (.int (0 : Int32)), .unset, .unset, .unset, .unset]) at_214 rfl rfl ?_
          refine OwnW.goto (pc' := 250) at_216 (by decide) (by decide) ?_
          exact J210_250 _ (by first | simp only [if_pos hc210] | rfl)
        ·
          refine OwnW.ifcY (pc' := 219) at_210 ((if0 _ _).trans (feq hc210).2) (by decide) (by decide) ?_
          refine OwnW.lload (pc' := 221) at_219 rfl rfl ?_
          refine OwnW.lload (pc' := 223) at_221 rfl rfl ?_
          refine OwnW.lcmp (pc' := 224) at_223 rfl ?_
          by_cases hc224 : (lcmpW b (f1 (f1 a0_ b) c)) = (0 : Int32)
          ·
            refine OwnW.ifcN (pc' := 227) at_224 ((if0 _ _).trans (teq hc224).2) rfl ?_
            refine OwnW.iconst (pc' := 228) (v := (1 : Int32)) at_227 rfl rfl ?_
            refine OwnW.istore (pc' := 230) (L' := #[.val (.long a0_), .second, .val (.long b0_), .second, .val (.long c0_), .second, .val (.long d0_), .second, .val (.int sel), .val (.int pick), .val (.int (3 : Int32)), .val (.long a0_), .second, .val (.long b), .second, .val (.long c), .second, .val (.long d), .second, .val (.ref ad1), .val (.ref ad32), .val (.int (1 : Int32)), .val (.long (f1 (f1 a0_ b) c)), .second, .val (.int (1 : Int32)), .unset, .unset, .unset, .unset]) at_228 rfl rfl ?_
            refine OwnW.goto (pc' := 250) at_230 (by decide) (by decide) ?_
            exact J210_250 _ (by first | simp only [if_neg hc210, if_pos hc224] | rfl)
          ·
            refine OwnW.ifcY (pc' := 233) at_224 ((if0 _ _).trans (feq hc224).2) (by decide) (by decide) ?_
            refine OwnW.lload (pc' := 235) at_233 rfl rfl ?_
            refine OwnW.lload (pc' := 237) at_235 rfl rfl ?_
            refine OwnW.lcmp (pc' := 238) at_237 rfl ?_
            by_cases hc238 : (lcmpW c (f1 (f1 a0_ b) c)) = (0 : Int32)
            ·
              refine OwnW.ifcN (pc' := 241) at_238 ((if0 _ _).trans (teq hc238).2) rfl ?_
              refine OwnW.iconst (pc' := 242) (v := (2 : Int32)) at_241 rfl rfl ?_
              refine OwnW.istore (pc' := 244) (L' := #[.val (.long a0_), .second, .val (.long b0_), .second, .val (.long c0_), .second, .val (.long d0_), .second, .val (.int sel), .val (.int pick), .val (.int (3 : Int32)), .val (.long a0_), .second, .val (.long b), .second, .val (.long c), .second, .val (.long d), .second, .val (.ref ad1), .val (.ref ad32), .val (.int (1 : Int32)), .val (.long (f1 (f1 a0_ b) c)), .second, .val (.int (2 : Int32)), .unset, .unset, .unset, .unset]) at_242 rfl rfl ?_
              refine OwnW.goto (pc' := 250) at_244 (by decide) (by decide) ?_
              exact J210_250 _ (by first | simp only [if_neg hc210, if_neg hc224, if_pos hc238] | rfl)
            ·
              refine OwnW.ifcY (pc' := 247) at_238 ((if0 _ _).trans (feq hc238).2) (by decide) (by decide) ?_
              refine OwnW.iconst (pc' := 248) (v := (3 : Int32)) at_247 rfl rfl ?_
              refine OwnW.istore (pc' := 250) (L' := #[.val (.long a0_), .second, .val (.long b0_), .second, .val (.long c0_), .second, .val (.long d0_), .second, .val (.int sel), .val (.int pick), .val (.int (3 : Int32)), .val (.long a0_), .second, .val (.long b), .second, .val (.long c), .second, .val (.long d), .second, .val (.ref ad1), .val (.ref ad32), .val (.int (1 : Int32)), .val (.long (f1 (f1 a0_ b) c)), .second, .val (.int (3 : Int32)), .unset, .unset, .unset, .unset]) at_248 rfl rfl ?_
              exact J210_250 _ (by first | simp only [if_neg hc210, if_neg hc224, if_neg hc238] | rfl)
      intro fi hfi
      refine OwnW.iload (pc' := 252) at_250 rfl rfl ?_
      refine OwnW.ifcN (pc' := 255) at_252 ((if0 _ _).trans (flt (by decide)).1) rfl ?_
      refine OwnW.aload (pc' := 257) at_255 rfl (rfl) rfl ?_
      refine OwnW.iload (pc' := 259) at_257 rfl rfl ?_
      have F47 := ((((V8.ext E32).other W33 (Nat.ne_of_lt lt_ad1_ad32)).other W35 (Nat.ne_of_lt lt_ad1_ad32)).other W37 (Nat.ne_of_lt lt_ad1_ad32))
      obtain ⟨cl48, Ar48, qk48, Sz48, Mn48, Hv48, Gf48⟩ := id F47
      refine OwnW.laload (pc' := 260) (v := (.long b)) at_259 Ar48 (inb_of Sz48 ⟨by decide, by decide⟩) (Hv48.at (inb_of Sz48 ⟨by decide, by decide⟩) rfl) rfl ?_
      refine OwnW.lload (pc' := 262) at_260 rfl rfl ?_
      refine OwnW.lcmp (pc' := 263) at_262 rfl ?_
      suffices J263_271 : ∀ (kp : Int32), kp = (if (lcmpW b (f1 (f1 a0_ b) c)) = (0 : Int32) then (1 : Int32) else (0 : Int32)) → GoB0 l Z n0 OwnW.One1 h37 2 7 271 #[.val (.long a0_), .second, .val (.long b0_), .second, .val (.long c0_), .second, .val (.long d0_), .second, .val (.int sel), .val (.int pick), .val (.int (3 : Int32)), .val (.long a0_), .second, .val (.long b), .second, .val (.long c), .second, .val (.long d), .second, .val (.ref ad1), .val (.ref ad32), .val (.int (1 : Int32)), .val (.long (f1 (f1 a0_ b) c)), .second, .val (.int fi), .unset, .unset, .unset, .unset] [(.int kp)] by
        by_cases hc263 : (lcmpW b (f1 (f1 a0_ b) c)) = (0 : Int32)
        ·
          refine OwnW.ifcN (pc' := 266) at_263 ((if0 _ _).trans (teq hc263).2) rfl ?_
          refine OwnW.iconst (pc' := 267) (v := (1 : Int32)) at_266 rfl rfl ?_
          refine OwnW.goto (pc' := 271) at_267 (by decide) (by decide) ?_
          exact J263_271 _ (by first | simp only [if_pos hc263] | rfl)
        ·
          refine OwnW.ifcY (pc' := 270) at_263 ((if0 _ _).trans (feq hc263).2) (by decide) (by decide) ?_
          refine OwnW.iconst (pc' := 271) (v := (0 : Int32)) at_270 rfl rfl ?_
          exact J263_271 _ (by first | simp only [if_neg hc263] | rfl)
      intro kp hkp
      refine OwnW.istore (pc' := 273) (L' := #[.val (.long a0_), .second, .val (.long b0_), .second, .val (.long c0_), .second, .val (.long d0_), .second, .val (.int sel), .val (.int pick), .val (.int (3 : Int32)), .val (.long a0_), .second, .val (.long b), .second, .val (.long c), .second, .val (.long d), .second, .val (.ref ad1), .val (.ref ad32), .val (.int (1 : Int32)), .val (.long (f1 (f1 a0_ b) c)), .second, .val (.int fi), .val (.int kp), .unset, .unset, .unset]) at_271 rfl rfl ?_
      refine OwnW.iload (pc' := 275) at_273 rfl rfl ?_
      suffices J275_285 : ∀ (ex : Int32), ex = (if kp = (0 : Int32) then fi else (1 : Int32)) → GoB0 l Z n0 OwnW.One1 h37 2 7 285 #[.val (.long a0_), .second, .val (.long b0_), .second, .val (.long c0_), .second, .val (.long d0_), .second, .val (.int sel), .val (.int pick), .val (.int (3 : Int32)), .val (.long a0_), .second, .val (.long b), .second, .val (.long c), .second, .val (.long d), .second, .val (.ref ad1), .val (.ref ad32), .val (.int (1 : Int32)), .val (.long (f1 (f1 a0_ b) c)), .second, .val (.int fi), .val (.int kp), .unset, .unset, .unset] [(.int ex)] by
        by_cases hc275 : kp = (0 : Int32)
        ·
          refine OwnW.ifcY (pc' := 283) at_275 ((if0 _ _).trans (teq hc275).1) (by decide) (by decide) ?_
          refine OwnW.iload (pc' := 285) at_283 rfl rfl ?_
          exact J275_285 _ (by first | simp only [if_pos hc275] | rfl)
        ·
          refine OwnW.ifcN (pc' := 278) at_275 ((if0 _ _).trans (feq hc275).1) rfl ?_
          refine OwnW.iload (pc' := 280) at_278 rfl rfl ?_
          refine OwnW.goto (pc' := 285) at_280 (by decide) (by decide) ?_
          exact J275_285 _ (by first | simp only [if_neg hc275] | rfl)
      intro ex hex
      refine OwnW.istore (pc' := 287) (L' := #[.val (.long a0_), .second, .val (.long b0_), .second, .val (.long c0_), .second, .val (.long d0_), .second, .val (.int sel), .val (.int pick), .val (.int (3 : Int32)), .val (.long a0_), .second, .val (.long b), .second, .val (.long c), .second, .val (.long d), .second, .val (.ref ad1), .val (.ref ad32), .val (.int (1 : Int32)), .val (.long (f1 (f1 a0_ b) c)), .second, .val (.int fi), .val (.int kp), .val (.int ex), .unset, .unset]) at_285 rfl rfl ?_
      refine OwnW.aload (pc' := 289) at_287 rfl (rfl) rfl ?_
      refine OwnW.iload (pc' := 291) at_289 rfl rfl ?_
      refine OwnW.callS0 (a0 := a0) (pc' := 294) (W := 0) (k' := 2) (n' := 7) (argsL := [(.ref ad32), (.int (1 : Int32))]) (rest := []) (St' := [(.int (f2_3_2 ad32 kc32 a0_ b c))]) at_291 (hw _ (List.mem_of_getElem? (i := 6) rfl)) (hw _ (List.mem_of_getElem? (i := 7) rfl)) (hw _ (List.mem_of_getElem? (i := 8) rfl)) (hw _ (List.mem_of_getElem? (i := 9) rfl)) (by decide) (rm2_3_2 l Z a0 hw ad32 kc32 a0_ b c h37 n0 V37) (by decide) (by decide) rfl rfl (by decide) (by decide) rfl pd_285bJI29I rfl rfl rfl (Nat.le_of_ble_eq_true rfl) rfl rfl ?_
      refine OwnW.istore (pc' := 296) (L' := #[.val (.long a0_), .second, .val (.long b0_), .second, .val (.long c0_), .second, .val (.long d0_), .second, .val (.int sel), .val (.int pick), .val (.int (3 : Int32)), .val (.long a0_), .second, .val (.long b), .second, .val (.long c), .second, .val (.long d), .second, .val (.ref ad1), .val (.ref ad32), .val (.int (1 : Int32)), .val (.long (f1 (f1 a0_ b) c)), .second, .val (.int fi), .val (.int kp), .val (.int ex), .val (.int (f2_3_2 ad32 kc32 a0_ b c)), .unset]) at_294 rfl rfl ?_
      refine OwnW.aload (pc' := 298) at_296 rfl (rfl) rfl ?_
      refine OwnW.iconst (pc' := 299) (v := (0 : Int32)) at_298 rfl rfl ?_
      obtain ⟨cl49, Ar49, qk49, Sz49, Mn49, Hv49, Gf49⟩ := id V37
      refine OwnW.laload (pc' := 300) (v := (.long a0_)) at_299 Ar49 (inb_of Sz49 ⟨by decide, by decide⟩) (Hv49.at (inb_of Sz49 ⟨by decide, by decide⟩) rfl) rfl ?_
      refine OwnW.lload (pc' := 302) at_300 rfl rfl ?_
      refine OwnW.lcmp (pc' := 303) at_302 rfl ?_
      refine OwnW.ifcN (pc' := 306) at_303 ((if0 _ _).trans (teq ((lw_eq _ _).mpr rfl)).2) rfl ?_
      refine OwnW.iconst (pc' := 307) (v := (1 : Int32)) at_306 rfl rfl ?_
      refine OwnW.goto (pc' := 311) at_307 (by decide) (by decide) ?_
      refine OwnW.istore (pc' := 313) (L' := #[.val (.long a0_), .second, .val (.long b0_), .second, .val (.long c0_), .second, .val (.long d0_), .second, .val (.int sel), .val (.int pick), .val (.int (3 : Int32)), .val (.long a0_), .second, .val (.long b), .second, .val (.long c), .second, .val (.long d), .second, .val (.ref ad1), .val (.ref ad32), .val (.int (1 : Int32)), .val (.long (f1 (f1 a0_ b) c)), .second, .val (.int fi), .val (.int kp), .val (.int ex), .val (.int (f2_3_2 ad32 kc32 a0_ b c)), .val (.int (1 : Int32))]) at_311 rfl rfl ?_
      refine OwnW.iload (pc' := 315) at_313 rfl rfl ?_
      refine OwnW.iconst (pc' := 316) (v := (1 : Int32)) at_315 rfl rfl ?_
      refine OwnW.icmpN (pc' := 319) at_316 (tlt (by decide)).2.2.2 rfl ?_
      refine OwnW.iload (pc' := 321) at_319 rfl rfl ?_
      refine OwnW.ifcN (pc' := 324) at_321 ((if0 _ _).trans (feq (by decide)).1) rfl ?_
      refine OwnW.aload (pc' := 326) at_324 rfl (rfl) rfl ?_
      refine OwnW.iconst (pc' := 327) (v := (1 : Int32)) at_326 rfl rfl ?_
      obtain ⟨cl50, Ar50, qk50, Sz50, Mn50, Hv50, Gf50⟩ := id V37
      refine OwnW.laload (pc' := 328) (v := (.long b)) at_327 Ar50 (inb_of Sz50 ⟨by decide, by decide⟩) (Hv50.at (inb_of Sz50 ⟨by decide, by decide⟩) rfl) rfl ?_
      refine OwnW.lload (pc' := 330) at_328 rfl rfl ?_
      refine OwnW.lcmp (pc' := 331) at_330 rfl ?_
      refine OwnW.ifcN (pc' := 334) at_331 ((if0 _ _).trans (teq ((lw_eq _ _).mpr rfl)).2) rfl ?_
      refine OwnW.iconst (pc' := 335) (v := (1 : Int32)) at_334 rfl rfl ?_
      refine OwnW.goto (pc' := 339) at_335 (by decide) (by decide) ?_
      refine OwnW.istore (pc' := 341) (L' := #[.val (.long a0_), .second, .val (.long b0_), .second, .val (.long c0_), .second, .val (.long d0_), .second, .val (.int sel), .val (.int pick), .val (.int (3 : Int32)), .val (.long a0_), .second, .val (.long b), .second, .val (.long c), .second, .val (.long d), .second, .val (.ref ad1), .val (.ref ad32), .val (.int (1 : Int32)), .val (.long (f1 (f1 a0_ b) c)), .second, .val (.int fi), .val (.int kp), .val (.int ex), .val (.int (f2_3_2 ad32 kc32 a0_ b c)), .val (.int (1 : Int32))]) at_339 rfl rfl ?_
      refine OwnW.iload (pc' := 343) at_341 rfl rfl ?_
      refine OwnW.iconst (pc' := 344) (v := (2 : Int32)) at_343 rfl rfl ?_
      refine OwnW.icmpN (pc' := 347) at_344 (tlt (by decide)).2.2.2 rfl ?_
      refine OwnW.iload (pc' := 349) at_347 rfl rfl ?_
      refine OwnW.ifcN (pc' := 352) at_349 ((if0 _ _).trans (feq (by decide)).1) rfl ?_
      refine OwnW.aload (pc' := 354) at_352 rfl (rfl) rfl ?_
      refine OwnW.iconst (pc' := 355) (v := (2 : Int32)) at_354 rfl rfl ?_
      obtain ⟨cl51, Ar51, qk51, Sz51, Mn51, Hv51, Gf51⟩ := id V37
      refine OwnW.laload (pc' := 356) (v := (.long c)) at_355 Ar51 (inb_of Sz51 ⟨by decide, by decide⟩) (Hv51.at (inb_of Sz51 ⟨by decide, by decide⟩) rfl) rfl ?_
      refine OwnW.lload (pc' := 358) at_356 rfl rfl ?_
      refine OwnW.lcmp (pc' := 359) at_358 rfl ?_
      refine OwnW.ifcN (pc' := 362) at_359 ((if0 _ _).trans (teq ((lw_eq _ _).mpr rfl)).2) rfl ?_
      refine OwnW.iconst (pc' := 363) (v := (1 : Int32)) at_362 rfl rfl ?_
      refine OwnW.goto (pc' := 367) at_363 (by decide) (by decide) ?_
      refine OwnW.istore (pc' := 369) (L' := #[.val (.long a0_), .second, .val (.long b0_), .second, .val (.long c0_), .second, .val (.long d0_), .second, .val (.int sel), .val (.int pick), .val (.int (3 : Int32)), .val (.long a0_), .second, .val (.long b), .second, .val (.long c), .second, .val (.long d), .second, .val (.ref ad1), .val (.ref ad32), .val (.int (1 : Int32)), .val (.long (f1 (f1 a0_ b) c)), .second, .val (.int fi), .val (.int kp), .val (.int ex), .val (.int (f2_3_2 ad32 kc32 a0_ b c)), .val (.int (1 : Int32))]) at_367 rfl rfl ?_
      refine OwnW.iload (pc' := 371) at_369 rfl rfl ?_
      refine OwnW.iconst (pc' := 372) (v := (3 : Int32)) at_371 rfl rfl ?_
      refine OwnW.icmpY (pc' := 397) at_372 (flt (by decide)).2.2.2 (by decide) (by decide) ?_
      refine OwnW.iload (pc' := 399) at_397 rfl rfl ?_
      refine OwnW.iload (pc' := 401) at_399 rfl rfl ?_
      by_cases hc401 : (f2_3_2 ad32 kc32 a0_ b c) = ex
      ·
        refine OwnW.icmpN (pc' := 404) at_401 (teq hc401).2 rfl ?_
        refine OwnW.iload (pc' := 406) at_404 rfl rfl ?_
        refine OwnW.ifcN (pc' := 409) at_406 ((if0 _ _).trans (feq (by decide)).1) rfl ?_
        refine OwnW.iconst (pc' := 410) (v := (1 : Int32)) at_409 rfl rfl ?_
        refine OwnW.goto (pc' := 414) at_410 (by decide) (by decide) ?_
        exact OwnW.retN (t := .boolean) at_414 rfl (by simp) rfl (by decide) (by decide) (rfl)
      ·
        refine OwnW.icmpY (pc' := 413) at_401 (feq hc401).2 (by decide) (by decide) ?_
        refine OwnW.iconst (pc' := 414) (v := (0 : Int32)) at_413 rfl rfl ?_
        exact OwnW.retN (t := .boolean) at_414 rfl (by simp) rfl (by decide) (by decide) (absurd (own_law3_2 (d := d) hfi hkp hex) hc401)
    ·
      show GoB0 l Z n0 OwnW.One1 h37 2 7 156 #[.val (.long a0_), .second, .val (.long b0_), .second, .val (.long c0_), .second, .val (.long d0_), .second, .val (.int sel), .val (.int pick), .val (.int (3 : Int32)), .val (.long a0_), .second, .val (.long b), .second, .val (.long c), .second, .val (.long d), .second, .val (.ref ad1), .val (.ref ad32), .val (.int (2 : Int32)), .unset, .unset, .unset, .unset, .unset, .unset, .unset] []
      refine OwnW.lload (pc' := 158) at_156 rfl rfl ?_
      refine OwnW.lstore (pc' := 160) (L' := #[.val (.long a0_), .second, .val (.long b0_), .second, .val (.long c0_), .second, .val (.long d0_), .second, .val (.int sel), .val (.int pick), .val (.int (3 : Int32)), .val (.long a0_), .second, .val (.long b), .second, .val (.long c), .second, .val (.long d), .second, .val (.ref ad1), .val (.ref ad32), .val (.int (2 : Int32)), .val (.long a0_), .second, .unset, .unset, .unset, .unset, .unset]) at_158 rfl rfl ?_
      refine OwnW.iload (pc' := 162) at_160 rfl rfl ?_
      refine OwnW.iconst (pc' := 163) (v := (1 : Int32)) at_162 rfl rfl ?_
      refine OwnW.icmpN (pc' := 166) at_163 (tlt (by decide)).2.2.2 rfl ?_
      refine OwnW.lload (pc' := 168) at_166 rfl rfl ?_
      refine OwnW.lload (pc' := 170) at_168 rfl rfl ?_
      refine OwnW.callS0 (a0 := a0) (pc' := 173) (W := 0) (k' := 2) (n' := 7) (argsL := [(.long a0_), (.long b)]) (rest := []) (St' := [(.long (f1 a0_ b))]) at_170 (hw _ (List.mem_of_getElem? (i := 2) rfl)) (hw _ (List.mem_of_getElem? (i := 3) rfl)) (hw _ (List.mem_of_getElem? (i := 4) rfl)) (hw _ (List.mem_of_getElem? (i := 5) rfl)) (by decide) (rm1 l Z a0 hw a0_ b h37 n0) (by decide) (by decide) rfl rfl (by decide) (by decide) rfl pd_28JJ29J rfl rfl rfl (Nat.le_of_ble_eq_true rfl) rfl rfl ?_
      refine OwnW.lstore (pc' := 175) (L' := #[.val (.long a0_), .second, .val (.long b0_), .second, .val (.long c0_), .second, .val (.long d0_), .second, .val (.int sel), .val (.int pick), .val (.int (3 : Int32)), .val (.long a0_), .second, .val (.long b), .second, .val (.long c), .second, .val (.long d), .second, .val (.ref ad1), .val (.ref ad32), .val (.int (2 : Int32)), .val (.long (f1 a0_ b)), .second, .unset, .unset, .unset, .unset, .unset]) at_173 rfl rfl ?_
      refine OwnW.iload (pc' := 177) at_175 rfl rfl ?_
      refine OwnW.iconst (pc' := 178) (v := (2 : Int32)) at_177 rfl rfl ?_
      refine OwnW.icmpN (pc' := 181) at_178 (tlt (by decide)).2.2.2 rfl ?_
      refine OwnW.lload (pc' := 183) at_181 rfl rfl ?_
      refine OwnW.lload (pc' := 185) at_183 rfl rfl ?_
      refine OwnW.callS0 (a0 := a0) (pc' := 188) (W := 0) (k' := 2) (n' := 7) (argsL := [(.long (f1 a0_ b)), (.long c)]) (rest := []) (St' := [(.long (f1 (f1 a0_ b) c))]) at_185 (hw _ (List.mem_of_getElem? (i := 2) rfl)) (hw _ (List.mem_of_getElem? (i := 3) rfl)) (hw _ (List.mem_of_getElem? (i := 4) rfl)) (hw _ (List.mem_of_getElem? (i := 5) rfl)) (by decide) (rm1 l Z a0 hw (f1 a0_ b) c h37 n0) (by decide) (by decide) rfl rfl (by decide) (by decide) rfl pd_28JJ29J rfl rfl rfl (Nat.le_of_ble_eq_true rfl) rfl rfl ?_
      refine OwnW.lstore (pc' := 190) (L' := #[.val (.long a0_), .second, .val (.long b0_), .second, .val (.long c0_), .second, .val (.long d0_), .second, .val (.int sel), .val (.int pick), .val (.int (3 : Int32)), .val (.long a0_), .second, .val (.long b), .second, .val (.long c), .second, .val (.long d), .second, .val (.ref ad1), .val (.ref ad32), .val (.int (2 : Int32)), .val (.long (f1 (f1 a0_ b) c)), .second, .unset, .unset, .unset, .unset, .unset]) at_188 rfl rfl ?_
      refine OwnW.iload (pc' := 192) at_190 rfl rfl ?_
      refine OwnW.iconst (pc' := 193) (v := (3 : Int32)) at_192 rfl rfl ?_
      refine OwnW.icmpY (pc' := 205) at_193 (flt (by decide)).2.2.2 (by decide) (by decide) ?_
      refine OwnW.lload (pc' := 207) at_205 rfl rfl ?_
      refine OwnW.lload (pc' := 209) at_207 rfl rfl ?_
      refine OwnW.lcmp (pc' := 210) at_209 rfl ?_
      suffices J210_250 : ∀ (fi : Int32), fi = (if (lcmpW a0_ (f1 (f1 a0_ b) c)) = (0 : Int32) then (0 : Int32) else (if (lcmpW b (f1 (f1 a0_ b) c)) = (0 : Int32) then (1 : Int32) else (if (lcmpW c (f1 (f1 a0_ b) c)) = (0 : Int32) then (2 : Int32) else (3 : Int32)))) → GoB0 l Z n0 OwnW.One1 h37 2 7 250 #[.val (.long a0_), .second, .val (.long b0_), .second, .val (.long c0_), .second, .val (.long d0_), .second, .val (.int sel), .val (.int pick), .val (.int (3 : Int32)), .val (.long a0_), .second, .val (.long b), .second, .val (.long c), .second, .val (.long d), .second, .val (.ref ad1), .val (.ref ad32), .val (.int (2 : Int32)), .val (.long (f1 (f1 a0_ b) c)), .second, .val (.int fi), .unset, .unset, .unset, .unset] [] by
        by_cases hc210 : (lcmpW a0_ (f1 (f1 a0_ b) c)) = (0 : Int32)
        ·
          refine OwnW.ifcN (pc' := 213) at_210 ((if0 _ _).trans (teq hc210).2) rfl ?_
          refine OwnW.iconst (pc' := 214) (v := (0 : Int32)) at_213 rfl rfl ?_
          refine OwnW.istore (pc' := 216) (L' := #[.val (.long a0_), .second, .val (.long b0_), .second, .val (.long c0_), .second, .val (.long d0_), .second, .val (.int sel), .val (.int pick), .val (.int (3 : Int32)), .val (.long a0_), .second, .val (.long b), .second, .val (.long c), .second, .val (.long d), .second, .val (.ref ad1), .val (.ref ad32), .val (.int (2 : Int32)), .val (.long (f1 (f1 a0_ b) c)), .second, .val (.int (0 : Int32)), .unset, .unset, .unset, .unset]) at_214 rfl rfl ?_
          refine OwnW.goto (pc' := 250) at_216 (by decide) (by decide) ?_
          exact J210_250 _ (by first | simp only [if_pos hc210] | rfl)
        ·
          refine OwnW.ifcY (pc' := 219) at_210 ((if0 _ _).trans (feq hc210).2) (by decide) (by decide) ?_
          refine OwnW.lload (pc' := 221) at_219 rfl rfl ?_
          refine OwnW.lload (pc' := 223) at_221 rfl rfl ?_
          refine OwnW.lcmp (pc' := 224) at_223 rfl ?_
          by_cases hc224 : (lcmpW b (f1 (f1 a0_ b) c)) = (0 : Int32)
          ·
            refine OwnW.ifcN (pc' := 227) at_224 ((if0 _ _).trans (teq hc224).2) rfl ?_
            refine OwnW.iconst (pc' := 228) (v := (1 : Int32)) at_227 rfl rfl ?_
            refine OwnW.istore (pc' := 230) (L' := #[.val (.long a0_), .second, .val (.long b0_), .second, .val (.long c0_), .second, .val (.long d0_), .second, .val (.int sel), .val (.int pick), .val (.int (3 : Int32)), .val (.long a0_), .second, .val (.long b), .second, .val (.long c), .second, .val (.long d), .second, .val (.ref ad1), .val (.ref ad32), .val (.int (2 : Int32)), .val (.long (f1 (f1 a0_ b) c)), .second, .val (.int (1 : Int32)), .unset, .unset, .unset, .unset]) at_228 rfl rfl ?_
            refine OwnW.goto (pc' := 250) at_230 (by decide) (by decide) ?_
            exact J210_250 _ (by first | simp only [if_neg hc210, if_pos hc224] | rfl)
          ·
            refine OwnW.ifcY (pc' := 233) at_224 ((if0 _ _).trans (feq hc224).2) (by decide) (by decide) ?_
            refine OwnW.lload (pc' := 235) at_233 rfl rfl ?_
            refine OwnW.lload (pc' := 237) at_235 rfl rfl ?_
            refine OwnW.lcmp (pc' := 238) at_237 rfl ?_
            by_cases hc238 : (lcmpW c (f1 (f1 a0_ b) c)) = (0 : Int32)
            ·
              refine OwnW.ifcN (pc' := 241) at_238 ((if0 _ _).trans (teq hc238).2) rfl ?_
              refine OwnW.iconst (pc' := 242) (v := (2 : Int32)) at_241 rfl rfl ?_
              refine OwnW.istore (pc' := 244) (L' := #[.val (.long a0_), .second, .val (.long b0_), .second, .val (.long c0_), .second, .val (.long d0_), .second, .val (.int sel), .val (.int pick), .val (.int (3 : Int32)), .val (.long a0_), .second, .val (.long b), .second, .val (.long c), .second, .val (.long d), .second, .val (.ref ad1), .val (.ref ad32), .val (.int (2 : Int32)), .val (.long (f1 (f1 a0_ b) c)), .second, .val (.int (2 : Int32)), .unset, .unset, .unset, .unset]) at_242 rfl rfl ?_
              refine OwnW.goto (pc' := 250) at_244 (by decide) (by decide) ?_
              exact J210_250 _ (by first | simp only [if_neg hc210, if_neg hc224, if_pos hc238] | rfl)
            ·
              refine OwnW.ifcY (pc' := 247) at_238 ((if0 _ _).trans (feq hc238).2) (by decide) (by decide) ?_
              refine OwnW.iconst (pc' := 248) (v := (3 : Int32)) at_247 rfl rfl ?_
              refine OwnW.istore (pc' := 250) (L' := #[.val (.long a0_), .second, .val (.long b0_), .second, .val (.long c0_), .second, .val (.long d0_), .second, .val (.int sel), .val (.int pick), .val (.int (3 : Int32)), .val (.long a0_), .second, .val (.long b), .second, .val (.long c), .second, .val (.long d), .second, .val (.ref ad1), .val (.ref ad32), .val (.int (2 : Int32)), .val (.long (f1 (f1 a0_ b) c)), .second, .val (.int (3 : Int32)), .unset, .unset, .unset, .unset]) at_248 rfl rfl ?_
              exact J210_250 _ (by first | simp only [if_neg hc210, if_neg hc224, if_neg hc238] | rfl)
      intro fi hfi
      refine OwnW.iload (pc' := 252) at_250 rfl rfl ?_
      refine OwnW.ifcN (pc' := 255) at_252 ((if0 _ _).trans (flt (by decide)).1) rfl ?_
      refine OwnW.aload (pc' := 257) at_255 rfl (rfl) rfl ?_
      refine OwnW.iload (pc' := 259) at_257 rfl rfl ?_
      have F52 := ((((V8.ext E32).other W33 (Nat.ne_of_lt lt_ad1_ad32)).other W35 (Nat.ne_of_lt lt_ad1_ad32)).other W37 (Nat.ne_of_lt lt_ad1_ad32))
      obtain ⟨cl53, Ar53, qk53, Sz53, Mn53, Hv53, Gf53⟩ := id F52
      refine OwnW.laload (pc' := 260) (v := (.long c)) at_259 Ar53 (inb_of Sz53 ⟨by decide, by decide⟩) (Hv53.at (inb_of Sz53 ⟨by decide, by decide⟩) rfl) rfl ?_
      refine OwnW.lload (pc' := 262) at_260 rfl rfl ?_
      refine OwnW.lcmp (pc' := 263) at_262 rfl ?_
      suffices J263_271 : ∀ (kp : Int32), kp = (if (lcmpW c (f1 (f1 a0_ b) c)) = (0 : Int32) then (1 : Int32) else (0 : Int32)) → GoB0 l Z n0 OwnW.One1 h37 2 7 271 #[.val (.long a0_), .second, .val (.long b0_), .second, .val (.long c0_), .second, .val (.long d0_), .second, .val (.int sel), .val (.int pick), .val (.int (3 : Int32)), .val (.long a0_), .second, .val (.long b), .second, .val (.long c), .second, .val (.long d), .second, .val (.ref ad1), .val (.ref ad32), .val (.int (2 : Int32)), .val (.long (f1 (f1 a0_ b) c)), .second, .val (.int fi), .unset, .unset, .unset, .unset] [(.int kp)] by
        by_cases hc263 : (lcmpW c (f1 (f1 a0_ b) c)) = (0 : Int32)
        ·
          refine OwnW.ifcN (pc' := 266) at_263 ((if0 _ _).trans (teq hc263).2) rfl ?_
          refine OwnW.iconst (pc' := 267) (v := (1 : Int32)) at_266 rfl rfl ?_
          refine OwnW.goto (pc' := 271) at_267 (by decide) (by decide) ?_
          exact J263_271 _ (by first | simp only [if_pos hc263] | rfl)
        ·
          refine OwnW.ifcY (pc' := 270) at_263 ((if0 _ _).trans (feq hc263).2) (by decide) (by decide) ?_
          refine OwnW.iconst (pc' := 271) (v := (0 : Int32)) at_270 rfl rfl ?_
          exact J263_271 _ (by first | simp only [if_neg hc263] | rfl)
      intro kp hkp
      refine OwnW.istore (pc' := 273) (L' := #[.val (.long a0_), .second, .val (.long b0_), .second, .val (.long c0_), .second, .val (.long d0_), .second, .val (.int sel), .val (.int pick), .val (.int (3 : Int32)), .val (.long a0_), .second, .val (.long b), .second, .val (.long c), .second, .val (.long d), .second, .val (.ref ad1), .val (.ref ad32), .val (.int (2 : Int32)), .val (.long (f1 (f1 a0_ b) c)), .second, .val (.int fi), .val (.int kp), .unset, .unset, .unset]) at_271 rfl rfl ?_
      refine OwnW.iload (pc' := 275) at_273 rfl rfl ?_
      suffices J275_285 : ∀ (ex : Int32), ex = (if kp = (0 : Int32) then fi else (2 : Int32)) → GoB0 l Z n0 OwnW.One1 h37 2 7 285 #[.val (.long a0_), .second, .val (.long b0_), .second, .val (.long c0_), .second, .val (.long d0_), .second, .val (.int sel), .val (.int pick), .val (.int (3 : Int32)), .val (.long a0_), .second, .val (.long b), .second, .val (.long c), .second, .val (.long d), .second, .val (.ref ad1), .val (.ref ad32), .val (.int (2 : Int32)), .val (.long (f1 (f1 a0_ b) c)), .second, .val (.int fi), .val (.int kp), .unset, .unset, .unset] [(.int ex)] by
        by_cases hc275 : kp = (0 : Int32)
        ·
          refine OwnW.ifcY (pc' := 283) at_275 ((if0 _ _).trans (teq hc275).1) (by decide) (by decide) ?_
          refine OwnW.iload (pc' := 285) at_283 rfl rfl ?_
          exact J275_285 _ (by first | simp only [if_pos hc275] | rfl)
        ·
          refine OwnW.ifcN (pc' := 278) at_275 ((if0 _ _).trans (feq hc275).1) rfl ?_
          refine OwnW.iload (pc' := 280) at_278 rfl rfl ?_
          refine OwnW.goto (pc' := 285) at_280 (by decide) (by decide) ?_
          exact J275_285 _ (by first | simp only [if_neg hc275] | rfl)
      intro ex hex
      refine OwnW.istore (pc' := 287) (L' := #[.val (.long a0_), .second, .val (.long b0_), .second, .val (.long c0_), .second, .val (.long d0_), .second, .val (.int sel), .val (.int pick), .val (.int (3 : Int32)), .val (.long a0_), .second, .val (.long b), .second, .val (.long c), .second, .val (.long d), .second, .val (.ref ad1), .val (.ref ad32), .val (.int (2 : Int32)), .val (.long (f1 (f1 a0_ b) c)), .second, .val (.int fi), .val (.int kp), .val (.int ex), .unset, .unset]) at_285 rfl rfl ?_
      refine OwnW.aload (pc' := 289) at_287 rfl (rfl) rfl ?_
      refine OwnW.iload (pc' := 291) at_289 rfl rfl ?_
      refine OwnW.callS0 (a0 := a0) (pc' := 294) (W := 0) (k' := 2) (n' := 7) (argsL := [(.ref ad32), (.int (2 : Int32))]) (rest := []) (St' := [(.int (f2_3_3 ad32 kc32 a0_ b c))]) at_291 (hw _ (List.mem_of_getElem? (i := 6) rfl)) (hw _ (List.mem_of_getElem? (i := 7) rfl)) (hw _ (List.mem_of_getElem? (i := 8) rfl)) (hw _ (List.mem_of_getElem? (i := 9) rfl)) (by decide) (rm2_3_3 l Z a0 hw ad32 kc32 a0_ b c h37 n0 V37) (by decide) (by decide) rfl rfl (by decide) (by decide) rfl pd_285bJI29I rfl rfl rfl (Nat.le_of_ble_eq_true rfl) rfl rfl ?_
      refine OwnW.istore (pc' := 296) (L' := #[.val (.long a0_), .second, .val (.long b0_), .second, .val (.long c0_), .second, .val (.long d0_), .second, .val (.int sel), .val (.int pick), .val (.int (3 : Int32)), .val (.long a0_), .second, .val (.long b), .second, .val (.long c), .second, .val (.long d), .second, .val (.ref ad1), .val (.ref ad32), .val (.int (2 : Int32)), .val (.long (f1 (f1 a0_ b) c)), .second, .val (.int fi), .val (.int kp), .val (.int ex), .val (.int (f2_3_3 ad32 kc32 a0_ b c)), .unset]) at_294 rfl rfl ?_
      refine OwnW.aload (pc' := 298) at_296 rfl (rfl) rfl ?_
      refine OwnW.iconst (pc' := 299) (v := (0 : Int32)) at_298 rfl rfl ?_
      obtain ⟨cl54, Ar54, qk54, Sz54, Mn54, Hv54, Gf54⟩ := id V37
      refine OwnW.laload (pc' := 300) (v := (.long a0_)) at_299 Ar54 (inb_of Sz54 ⟨by decide, by decide⟩) (Hv54.at (inb_of Sz54 ⟨by decide, by decide⟩) rfl) rfl ?_
      refine OwnW.lload (pc' := 302) at_300 rfl rfl ?_
      refine OwnW.lcmp (pc' := 303) at_302 rfl ?_
      refine OwnW.ifcN (pc' := 306) at_303 ((if0 _ _).trans (teq ((lw_eq _ _).mpr rfl)).2) rfl ?_
      refine OwnW.iconst (pc' := 307) (v := (1 : Int32)) at_306 rfl rfl ?_
      refine OwnW.goto (pc' := 311) at_307 (by decide) (by decide) ?_
      refine OwnW.istore (pc' := 313) (L' := #[.val (.long a0_), .second, .val (.long b0_), .second, .val (.long c0_), .second, .val (.long d0_), .second, .val (.int sel), .val (.int pick), .val (.int (3 : Int32)), .val (.long a0_), .second, .val (.long b), .second, .val (.long c), .second, .val (.long d), .second, .val (.ref ad1), .val (.ref ad32), .val (.int (2 : Int32)), .val (.long (f1 (f1 a0_ b) c)), .second, .val (.int fi), .val (.int kp), .val (.int ex), .val (.int (f2_3_3 ad32 kc32 a0_ b c)), .val (.int (1 : Int32))]) at_311 rfl rfl ?_
      refine OwnW.iload (pc' := 315) at_313 rfl rfl ?_
      refine OwnW.iconst (pc' := 316) (v := (1 : Int32)) at_315 rfl rfl ?_
      refine OwnW.icmpN (pc' := 319) at_316 (tlt (by decide)).2.2.2 rfl ?_
      refine OwnW.iload (pc' := 321) at_319 rfl rfl ?_
      refine OwnW.ifcN (pc' := 324) at_321 ((if0 _ _).trans (feq (by decide)).1) rfl ?_
      refine OwnW.aload (pc' := 326) at_324 rfl (rfl) rfl ?_
      refine OwnW.iconst (pc' := 327) (v := (1 : Int32)) at_326 rfl rfl ?_
      obtain ⟨cl55, Ar55, qk55, Sz55, Mn55, Hv55, Gf55⟩ := id V37
      refine OwnW.laload (pc' := 328) (v := (.long b)) at_327 Ar55 (inb_of Sz55 ⟨by decide, by decide⟩) (Hv55.at (inb_of Sz55 ⟨by decide, by decide⟩) rfl) rfl ?_
      refine OwnW.lload (pc' := 330) at_328 rfl rfl ?_
      refine OwnW.lcmp (pc' := 331) at_330 rfl ?_
      refine OwnW.ifcN (pc' := 334) at_331 ((if0 _ _).trans (teq ((lw_eq _ _).mpr rfl)).2) rfl ?_
      refine OwnW.iconst (pc' := 335) (v := (1 : Int32)) at_334 rfl rfl ?_
      refine OwnW.goto (pc' := 339) at_335 (by decide) (by decide) ?_
      refine OwnW.istore (pc' := 341) (L' := #[.val (.long a0_), .second, .val (.long b0_), .second, .val (.long c0_), .second, .val (.long d0_), .second, .val (.int sel), .val (.int pick), .val (.int (3 : Int32)), .val (.long a0_), .second, .val (.long b), .second, .val (.long c), .second, .val (.long d), .second, .val (.ref ad1), .val (.ref ad32), .val (.int (2 : Int32)), .val (.long (f1 (f1 a0_ b) c)), .second, .val (.int fi), .val (.int kp), .val (.int ex), .val (.int (f2_3_3 ad32 kc32 a0_ b c)), .val (.int (1 : Int32))]) at_339 rfl rfl ?_
      refine OwnW.iload (pc' := 343) at_341 rfl rfl ?_
      refine OwnW.iconst (pc' := 344) (v := (2 : Int32)) at_343 rfl rfl ?_
      refine OwnW.icmpN (pc' := 347) at_344 (tlt (by decide)).2.2.2 rfl ?_
      refine OwnW.iload (pc' := 349) at_347 rfl rfl ?_
      refine OwnW.ifcN (pc' := 352) at_349 ((if0 _ _).trans (feq (by decide)).1) rfl ?_
      refine OwnW.aload (pc' := 354) at_352 rfl (rfl) rfl ?_
      refine OwnW.iconst (pc' := 355) (v := (2 : Int32)) at_354 rfl rfl ?_
      obtain ⟨cl56, Ar56, qk56, Sz56, Mn56, Hv56, Gf56⟩ := id V37
      refine OwnW.laload (pc' := 356) (v := (.long c)) at_355 Ar56 (inb_of Sz56 ⟨by decide, by decide⟩) (Hv56.at (inb_of Sz56 ⟨by decide, by decide⟩) rfl) rfl ?_
      refine OwnW.lload (pc' := 358) at_356 rfl rfl ?_
      refine OwnW.lcmp (pc' := 359) at_358 rfl ?_
      refine OwnW.ifcN (pc' := 362) at_359 ((if0 _ _).trans (teq ((lw_eq _ _).mpr rfl)).2) rfl ?_
      refine OwnW.iconst (pc' := 363) (v := (1 : Int32)) at_362 rfl rfl ?_
      refine OwnW.goto (pc' := 367) at_363 (by decide) (by decide) ?_
      refine OwnW.istore (pc' := 369) (L' := #[.val (.long a0_), .second, .val (.long b0_), .second, .val (.long c0_), .second, .val (.long d0_), .second, .val (.int sel), .val (.int pick), .val (.int (3 : Int32)), .val (.long a0_), .second, .val (.long b), .second, .val (.long c), .second, .val (.long d), .second, .val (.ref ad1), .val (.ref ad32), .val (.int (2 : Int32)), .val (.long (f1 (f1 a0_ b) c)), .second, .val (.int fi), .val (.int kp), .val (.int ex), .val (.int (f2_3_3 ad32 kc32 a0_ b c)), .val (.int (1 : Int32))]) at_367 rfl rfl ?_
      refine OwnW.iload (pc' := 371) at_369 rfl rfl ?_
      refine OwnW.iconst (pc' := 372) (v := (3 : Int32)) at_371 rfl rfl ?_
      refine OwnW.icmpY (pc' := 397) at_372 (flt (by decide)).2.2.2 (by decide) (by decide) ?_
      refine OwnW.iload (pc' := 399) at_397 rfl rfl ?_
      refine OwnW.iload (pc' := 401) at_399 rfl rfl ?_
      by_cases hc401 : (f2_3_3 ad32 kc32 a0_ b c) = ex
      ·
        refine OwnW.icmpN (pc' := 404) at_401 (teq hc401).2 rfl ?_
        refine OwnW.iload (pc' := 406) at_404 rfl rfl ?_
        refine OwnW.ifcN (pc' := 409) at_406 ((if0 _ _).trans (feq (by decide)).1) rfl ?_
        refine OwnW.iconst (pc' := 410) (v := (1 : Int32)) at_409 rfl rfl ?_
        refine OwnW.goto (pc' := 414) at_410 (by decide) (by decide) ?_
        exact OwnW.retN (t := .boolean) at_414 rfl (by simp) rfl (by decide) (by decide) (rfl)
      ·
        refine OwnW.icmpY (pc' := 413) at_401 (feq hc401).2 (by decide) (by decide) ?_
        refine OwnW.iconst (pc' := 414) (v := (0 : Int32)) at_413 rfl rfl ?_
        exact OwnW.retN (t := .boolean) at_414 rfl (by simp) rfl (by decide) (by decide) (absurd (own_law3_3 (d := d) hfi hkp hex) hc401)
  ·
    show GoB0 l Z n0 OwnW.One1 h8 1 4 94 #[.val (.long a0_), .second, .val (.long b0_), .second, .val (.long c0_), .second, .val (.long d0_), .second, .val (.int sel), .val (.int pick), .val (.int (4 : Int32)), .val (.long a0_), .second, .val (.long b), .second, .val (.long c), .second, .val (.long d), .second, .val (.ref ad1), .unset, .unset, .unset, .unset, .unset, .unset, .unset, .unset, .unset] []
    refine OwnW.iload (pc' := 96) at_94 rfl rfl ?_
    refine OwnW.newP (a0 := a0) (pc' := 98) (cap := 4) (k' := 2) (n' := 8) at_96 (hw _ (List.mem_of_getElem? (i := 0) rfl)) (by decide) (by decide) (by decide) rfl rfl (by decide) (by decide) rfl ?_
    intro h57 kc57 ad57 g57 E57 A57
    have lt_ad1_ad57 : @LT.lt Nat _ ad1 ad57 := Nat.lt_of_lt_of_le (V8).lt (Nat.le_of_eq g57.symm)
    have ge_ad57 : n0 ≤ ad57 := Nat.le_trans sz9 (Nat.le_of_eq g57.symm)
    have sz_ad57 : n0 ≤ h57.size := Nat.le_trans sz9 E57.1
    have V57 : Arv Z h57 ad57 kc57 .long (4 : Int32) [(.long (0 : Int64)), (.long (0 : Int64)), (.long (0 : Int64)), (.long (0 : Int64))] (.long (0 : Int64)) := (Arv.new A57 (by decide)).pad (pad_rep [] _ 4)
    refine OwnW.astore (pc' := 100) (L' := #[.val (.long a0_), .second, .val (.long b0_), .second, .val (.long c0_), .second, .val (.long d0_), .second, .val (.int sel), .val (.int pick), .val (.int (4 : Int32)), .val (.long a0_), .second, .val (.long b), .second, .val (.long c), .second, .val (.long d), .second, .val (.ref ad1), .val (.ref ad57), .unset, .unset, .unset, .unset, .unset, .unset, .unset, .unset]) at_98 (rfl) rfl rfl ?_
    refine OwnW.aload (pc' := 102) at_100 rfl (rfl) rfl ?_
    refine OwnW.iconst (pc' := 103) (v := (0 : Int32)) at_102 rfl rfl ?_
    refine OwnW.lload (pc' := 105) at_103 rfl rfl ?_
    obtain ⟨cl58, Ar58, qk58, Sz58, Mn58, Hv58, Gf58⟩ := id V57
    refine OwnW.stJ (pc' := 106) at_105 Ar58 (inb_of Sz58 ⟨by decide, by decide⟩) ge_ad57 rfl ?_
    intro h58 W58
    have sz59 : n0 ≤ h58.size := (by rw [W58.size]; exact sz_ad57)
    have V58 : Arv Z h58 ad57 kc57 .long (4 : Int32) [(.long a0_), (.long (0 : Int64)), (.long (0 : Int64)), (.long (0 : Int64))] (.long (0 : Int64)) := Arv.set Ar58 qk58 Sz58 Mn58 Hv58 Gf58 rfl W58 0 rfl (Nat.le_of_ble_eq_true rfl)
    refine OwnW.iload (pc' := 108) at_106 rfl rfl ?_
    refine OwnW.iconst (pc' := 109) (v := (1 : Int32)) at_108 rfl rfl ?_
    refine OwnW.icmpN (pc' := 112) at_109 (tlt (by decide)).2.2.2 rfl ?_
    refine OwnW.aload (pc' := 114) at_112 rfl (rfl) rfl ?_
    refine OwnW.iconst (pc' := 115) (v := (1 : Int32)) at_114 rfl rfl ?_
    refine OwnW.lload (pc' := 117) at_115 rfl rfl ?_
    obtain ⟨cl60, Ar60, qk60, Sz60, Mn60, Hv60, Gf60⟩ := id V58
    refine OwnW.stJ (pc' := 118) at_117 Ar60 (inb_of Sz60 ⟨by decide, by decide⟩) ge_ad57 rfl ?_
    intro h60 W60
    have sz61 : n0 ≤ h60.size := (by rw [W60.size]; exact sz59)
    have V60 : Arv Z h60 ad57 kc57 .long (4 : Int32) [(.long a0_), (.long b), (.long (0 : Int64)), (.long (0 : Int64))] (.long (0 : Int64)) := Arv.set Ar60 qk60 Sz60 Mn60 Hv60 Gf60 rfl W60 1 rfl (Nat.le_of_ble_eq_true rfl)
    refine OwnW.iload (pc' := 120) at_118 rfl rfl ?_
    refine OwnW.iconst (pc' := 121) (v := (2 : Int32)) at_120 rfl rfl ?_
    refine OwnW.icmpN (pc' := 124) at_121 (tlt (by decide)).2.2.2 rfl ?_
    refine OwnW.aload (pc' := 126) at_124 rfl (rfl) rfl ?_
    refine OwnW.iconst (pc' := 127) (v := (2 : Int32)) at_126 rfl rfl ?_
    refine OwnW.lload (pc' := 129) at_127 rfl rfl ?_
    obtain ⟨cl62, Ar62, qk62, Sz62, Mn62, Hv62, Gf62⟩ := id V60
    refine OwnW.stJ (pc' := 130) at_129 Ar62 (inb_of Sz62 ⟨by decide, by decide⟩) ge_ad57 rfl ?_
    intro h62 W62
    have sz63 : n0 ≤ h62.size := (by rw [W62.size]; exact sz61)
    have V62 : Arv Z h62 ad57 kc57 .long (4 : Int32) [(.long a0_), (.long b), (.long c), (.long (0 : Int64))] (.long (0 : Int64)) := Arv.set Ar62 qk62 Sz62 Mn62 Hv62 Gf62 rfl W62 2 rfl (Nat.le_of_ble_eq_true rfl)
    refine OwnW.iload (pc' := 132) at_130 rfl rfl ?_
    refine OwnW.iconst (pc' := 133) (v := (3 : Int32)) at_132 rfl rfl ?_
    refine OwnW.icmpN (pc' := 136) at_133 (tlt (by decide)).2.2.2 rfl ?_
    refine OwnW.aload (pc' := 138) at_136 rfl (rfl) rfl ?_
    refine OwnW.iconst (pc' := 139) (v := (3 : Int32)) at_138 rfl rfl ?_
    refine OwnW.lload (pc' := 141) at_139 rfl rfl ?_
    obtain ⟨cl64, Ar64, qk64, Sz64, Mn64, Hv64, Gf64⟩ := id V62
    refine OwnW.stJ (pc' := 142) at_141 Ar64 (inb_of Sz64 ⟨by decide, by decide⟩) ge_ad57 rfl ?_
    intro h64 W64
    have sz65 : n0 ≤ h64.size := (by rw [W64.size]; exact sz63)
    have V64 : Arv Z h64 ad57 kc57 .long (4 : Int32) [(.long a0_), (.long b), (.long c), (.long d)] (.long (0 : Int64)) := Arv.set Ar64 qk64 Sz64 Mn64 Hv64 Gf64 rfl W64 3 rfl (Nat.le_of_ble_eq_true rfl)
    refine OwnW.iload (pc' := 144) at_142 rfl rfl ?_
    refine OwnW.ldcI (a0 := a0) (pc' := 146) (v := (2147483647 : Int32)) at_144 (hw _ (List.mem_of_getElem? (i := 1) rfl)) rfl ?_
    refine OwnW.iand (pc' := 147) at_146 rfl ?_
    refine OwnW.iload (pc' := 149) at_147 rfl rfl ?_
    refine OwnW.iconst (pc' := 150) (v := (1 : Int32)) at_149 rfl rfl ?_
    refine OwnW.iadd (pc' := 151) at_150 rfl ?_
    show GoB0 l Z n0 OwnW.One1 h64 2 8 151 #[.val (.long a0_), .second, .val (.long b0_), .second, .val (.long c0_), .second, .val (.long d0_), .second, .val (.int sel), .val (.int pick), .val (.int (4 : Int32)), .val (.long a0_), .second, .val (.long b), .second, .val (.long c), .second, .val (.long d), .second, .val (.ref ad1), .val (.ref ad57), .unset, .unset, .unset, .unset, .unset, .unset, .unset, .unset] [(.int (5 : Int32)), (.int (pick &&& (2147483647 : Int32)))]
    refine OwnW.irem (pc' := 152) at_151 (by decide) rfl ?_
    refine OwnW.iconst (pc' := 153) (v := (1 : Int32)) at_152 rfl rfl ?_
    refine OwnW.isub (pc' := 154) at_153 rfl ?_
    obtain ⟨pr, hpr⟩ : ∃ z, z = (((pick &&& (2147483647 : Int32)) % (5 : Int32)) - (1 : Int32)) := ⟨_, rfl⟩
    rw [← hpr]
    show GoB0 l Z n0 OwnW.One1 h64 2 8 154 #[.val (.long a0_), .second, .val (.long b0_), .second, .val (.long c0_), .second, .val (.long d0_), .second, .val (.int sel), .val (.int pick), .val (.int (4 : Int32)), .val (.long a0_), .second, .val (.long b), .second, .val (.long c), .second, .val (.long d), .second, .val (.ref ad1), .val (.ref ad57), .unset, .unset, .unset, .unset, .unset, .unset, .unset, .unset] [(.int pr)]
    refine OwnW.istore (pc' := 156) (L' := #[.val (.long a0_), .second, .val (.long b0_), .second, .val (.long c0_), .second, .val (.long d0_), .second, .val (.int sel), .val (.int pick), .val (.int (4 : Int32)), .val (.long a0_), .second, .val (.long b), .second, .val (.long c), .second, .val (.long d), .second, .val (.ref ad1), .val (.ref ad57), .val (.int pr), .unset, .unset, .unset, .unset, .unset, .unset, .unset]) at_154 rfl rfl ?_
    rcases (own_pr4 hpr) with rfl | rfl | rfl | rfl | rfl
    ·
      show GoB0 l Z n0 OwnW.One1 h64 2 8 156 #[.val (.long a0_), .second, .val (.long b0_), .second, .val (.long c0_), .second, .val (.long d0_), .second, .val (.int sel), .val (.int pick), .val (.int (4 : Int32)), .val (.long a0_), .second, .val (.long b), .second, .val (.long c), .second, .val (.long d), .second, .val (.ref ad1), .val (.ref ad57), .val (.int (-1 : Int32)), .unset, .unset, .unset, .unset, .unset, .unset, .unset] []
      refine OwnW.lload (pc' := 158) at_156 rfl rfl ?_
      refine OwnW.lstore (pc' := 160) (L' := #[.val (.long a0_), .second, .val (.long b0_), .second, .val (.long c0_), .second, .val (.long d0_), .second, .val (.int sel), .val (.int pick), .val (.int (4 : Int32)), .val (.long a0_), .second, .val (.long b), .second, .val (.long c), .second, .val (.long d), .second, .val (.ref ad1), .val (.ref ad57), .val (.int (-1 : Int32)), .val (.long a0_), .second, .unset, .unset, .unset, .unset, .unset]) at_158 rfl rfl ?_
      refine OwnW.iload (pc' := 162) at_160 rfl rfl ?_
      refine OwnW.iconst (pc' := 163) (v := (1 : Int32)) at_162 rfl rfl ?_
      refine OwnW.icmpN (pc' := 166) at_163 (tlt (by decide)).2.2.2 rfl ?_
      refine OwnW.lload (pc' := 168) at_166 rfl rfl ?_
      refine OwnW.lload (pc' := 170) at_168 rfl rfl ?_
      refine OwnW.callS0 (a0 := a0) (pc' := 173) (W := 0) (k' := 2) (n' := 8) (argsL := [(.long a0_), (.long b)]) (rest := []) (St' := [(.long (f1 a0_ b))]) at_170 (hw _ (List.mem_of_getElem? (i := 2) rfl)) (hw _ (List.mem_of_getElem? (i := 3) rfl)) (hw _ (List.mem_of_getElem? (i := 4) rfl)) (hw _ (List.mem_of_getElem? (i := 5) rfl)) (by decide) (rm1 l Z a0 hw a0_ b h64 n0) (by decide) (by decide) rfl rfl (by decide) (by decide) rfl pd_28JJ29J rfl rfl rfl (Nat.le_of_ble_eq_true rfl) rfl rfl ?_
      refine OwnW.lstore (pc' := 175) (L' := #[.val (.long a0_), .second, .val (.long b0_), .second, .val (.long c0_), .second, .val (.long d0_), .second, .val (.int sel), .val (.int pick), .val (.int (4 : Int32)), .val (.long a0_), .second, .val (.long b), .second, .val (.long c), .second, .val (.long d), .second, .val (.ref ad1), .val (.ref ad57), .val (.int (-1 : Int32)), .val (.long (f1 a0_ b)), .second, .unset, .unset, .unset, .unset, .unset]) at_173 rfl rfl ?_
      refine OwnW.iload (pc' := 177) at_175 rfl rfl ?_
      refine OwnW.iconst (pc' := 178) (v := (2 : Int32)) at_177 rfl rfl ?_
      refine OwnW.icmpN (pc' := 181) at_178 (tlt (by decide)).2.2.2 rfl ?_
      refine OwnW.lload (pc' := 183) at_181 rfl rfl ?_
      refine OwnW.lload (pc' := 185) at_183 rfl rfl ?_
      refine OwnW.callS0 (a0 := a0) (pc' := 188) (W := 0) (k' := 2) (n' := 8) (argsL := [(.long (f1 a0_ b)), (.long c)]) (rest := []) (St' := [(.long (f1 (f1 a0_ b) c))]) at_185 (hw _ (List.mem_of_getElem? (i := 2) rfl)) (hw _ (List.mem_of_getElem? (i := 3) rfl)) (hw _ (List.mem_of_getElem? (i := 4) rfl)) (hw _ (List.mem_of_getElem? (i := 5) rfl)) (by decide) (rm1 l Z a0 hw (f1 a0_ b) c h64 n0) (by decide) (by decide) rfl rfl (by decide) (by decide) rfl pd_28JJ29J rfl rfl rfl (Nat.le_of_ble_eq_true rfl) rfl rfl ?_
      refine OwnW.lstore (pc' := 190) (L' := #[.val (.long a0_), .second, .val (.long b0_), .second, .val (.long c0_), .second, .val (.long d0_), .second, .val (.int sel), .val (.int pick), .val (.int (4 : Int32)), .val (.long a0_), .second, .val (.long b), .second, .val (.long c), .second, .val (.long d), .second, .val (.ref ad1), .val (.ref ad57), .val (.int (-1 : Int32)), .val (.long (f1 (f1 a0_ b) c)), .second, .unset, .unset, .unset, .unset, .unset]) at_188 rfl rfl ?_
      refine OwnW.iload (pc' := 192) at_190 rfl rfl ?_
      refine OwnW.iconst (pc' := 193) (v := (3 : Int32)) at_192 rfl rfl ?_
      refine OwnW.icmpN (pc' := 196) at_193 (tlt (by decide)).2.2.2 rfl ?_
      refine OwnW.lload (pc' := 198) at_196 rfl rfl ?_
      refine OwnW.lload (pc' := 200) at_198 rfl rfl ?_
      refine OwnW.callS0 (a0 := a0) (pc' := 203) (W := 0) (k' := 2) (n' := 8) (argsL := [(.long (f1 (f1 a0_ b) c)), (.long d)]) (rest := []) (St' := [(.long (f1 (f1 (f1 a0_ b) c) d))]) at_200 (hw _ (List.mem_of_getElem? (i := 2) rfl)) (hw _ (List.mem_of_getElem? (i := 3) rfl)) (hw _ (List.mem_of_getElem? (i := 4) rfl)) (hw _ (List.mem_of_getElem? (i := 5) rfl)) (by decide) (rm1 l Z a0 hw (f1 (f1 a0_ b) c) d h64 n0) (by decide) (by decide) rfl rfl (by decide) (by decide) rfl pd_28JJ29J rfl rfl rfl (Nat.le_of_ble_eq_true rfl) rfl rfl ?_
      refine OwnW.lstore (pc' := 205) (L' := #[.val (.long a0_), .second, .val (.long b0_), .second, .val (.long c0_), .second, .val (.long d0_), .second, .val (.int sel), .val (.int pick), .val (.int (4 : Int32)), .val (.long a0_), .second, .val (.long b), .second, .val (.long c), .second, .val (.long d), .second, .val (.ref ad1), .val (.ref ad57), .val (.int (-1 : Int32)), .val (.long (f1 (f1 (f1 a0_ b) c) d)), .second, .unset, .unset, .unset, .unset, .unset]) at_203 rfl rfl ?_
      refine OwnW.lload (pc' := 207) at_205 rfl rfl ?_
      refine OwnW.lload (pc' := 209) at_207 rfl rfl ?_
      refine OwnW.lcmp (pc' := 210) at_209 rfl ?_
      suffices J210_250 : ∀ (fi : Int32), fi = (if (lcmpW a0_ (f1 (f1 (f1 a0_ b) c) d)) = (0 : Int32) then (0 : Int32) else (if (lcmpW b (f1 (f1 (f1 a0_ b) c) d)) = (0 : Int32) then (1 : Int32) else (if (lcmpW c (f1 (f1 (f1 a0_ b) c) d)) = (0 : Int32) then (2 : Int32) else (3 : Int32)))) → GoB0 l Z n0 OwnW.One1 h64 2 8 250 #[.val (.long a0_), .second, .val (.long b0_), .second, .val (.long c0_), .second, .val (.long d0_), .second, .val (.int sel), .val (.int pick), .val (.int (4 : Int32)), .val (.long a0_), .second, .val (.long b), .second, .val (.long c), .second, .val (.long d), .second, .val (.ref ad1), .val (.ref ad57), .val (.int (-1 : Int32)), .val (.long (f1 (f1 (f1 a0_ b) c) d)), .second, .val (.int fi), .unset, .unset, .unset, .unset] [] by
        by_cases hc210 : (lcmpW a0_ (f1 (f1 (f1 a0_ b) c) d)) = (0 : Int32)
        ·
          refine OwnW.ifcN (pc' := 213) at_210 ((if0 _ _).trans (teq hc210).2) rfl ?_
          refine OwnW.iconst (pc' := 214) (v := (0 : Int32)) at_213 rfl rfl ?_
          refine OwnW.istore (pc' := 216) (L' := #[.val (.long a0_), .second, .val (.long b0_), .second, .val (.long c0_), .second, .val (.long d0_), .second, .val (.int sel), .val (.int pick), .val (.int (4 : Int32)), .val (.long a0_), .second, .val (.long b), .second, .val (.long c), .second, .val (.long d), .second, .val (.ref ad1), .val (.ref ad57), .val (.int (-1 : Int32)), .val (.long (f1 (f1 (f1 a0_ b) c) d)), .second, .val (.int (0 : Int32)), .unset, .unset, .unset, .unset]) at_214 rfl rfl ?_
          refine OwnW.goto (pc' := 250) at_216 (by decide) (by decide) ?_
          exact J210_250 _ (by first | simp only [if_pos hc210] | rfl)
        ·
          refine OwnW.ifcY (pc' := 219) at_210 ((if0 _ _).trans (feq hc210).2) (by decide) (by decide) ?_
          refine OwnW.lload (pc' := 221) at_219 rfl rfl ?_
          refine OwnW.lload (pc' := 223) at_221 rfl rfl ?_
          refine OwnW.lcmp (pc' := 224) at_223 rfl ?_
          by_cases hc224 : (lcmpW b (f1 (f1 (f1 a0_ b) c) d)) = (0 : Int32)
          ·
            refine OwnW.ifcN (pc' := 227) at_224 ((if0 _ _).trans (teq hc224).2) rfl ?_
            refine OwnW.iconst (pc' := 228) (v := (1 : Int32)) at_227 rfl rfl ?_
            refine OwnW.istore (pc' := 230) (L' := #[.val (.long a0_), .second, .val (.long b0_), .second, .val (.long c0_), .second, .val (.long d0_), .second, .val (.int sel), .val (.int pick), .val (.int (4 : Int32)), .val (.long a0_), .second, .val (.long b), .second, .val (.long c), .second, .val (.long d), .second, .val (.ref ad1), .val (.ref ad57), .val (.int (-1 : Int32)), .val (.long (f1 (f1 (f1 a0_ b) c) d)), .second, .val (.int (1 : Int32)), .unset, .unset, .unset, .unset]) at_228 rfl rfl ?_
            refine OwnW.goto (pc' := 250) at_230 (by decide) (by decide) ?_
            exact J210_250 _ (by first | simp only [if_neg hc210, if_pos hc224] | rfl)
          ·
            refine OwnW.ifcY (pc' := 233) at_224 ((if0 _ _).trans (feq hc224).2) (by decide) (by decide) ?_
            refine OwnW.lload (pc' := 235) at_233 rfl rfl ?_
            refine OwnW.lload (pc' := 237) at_235 rfl rfl ?_
            refine OwnW.lcmp (pc' := 238) at_237 rfl ?_
            by_cases hc238 : (lcmpW c (f1 (f1 (f1 a0_ b) c) d)) = (0 : Int32)
            ·
              refine OwnW.ifcN (pc' := 241) at_238 ((if0 _ _).trans (teq hc238).2) rfl ?_
              refine OwnW.iconst (pc' := 242) (v := (2 : Int32)) at_241 rfl rfl ?_
              refine OwnW.istore (pc' := 244) (L' := #[.val (.long a0_), .second, .val (.long b0_), .second, .val (.long c0_), .second, .val (.long d0_), .second, .val (.int sel), .val (.int pick), .val (.int (4 : Int32)), .val (.long a0_), .second, .val (.long b), .second, .val (.long c), .second, .val (.long d), .second, .val (.ref ad1), .val (.ref ad57), .val (.int (-1 : Int32)), .val (.long (f1 (f1 (f1 a0_ b) c) d)), .second, .val (.int (2 : Int32)), .unset, .unset, .unset, .unset]) at_242 rfl rfl ?_
              refine OwnW.goto (pc' := 250) at_244 (by decide) (by decide) ?_
              exact J210_250 _ (by first | simp only [if_neg hc210, if_neg hc224, if_pos hc238] | rfl)
            ·
              refine OwnW.ifcY (pc' := 247) at_238 ((if0 _ _).trans (feq hc238).2) (by decide) (by decide) ?_
              refine OwnW.iconst (pc' := 248) (v := (3 : Int32)) at_247 rfl rfl ?_
              refine OwnW.istore (pc' := 250) (L' := #[.val (.long a0_), .second, .val (.long b0_), .second, .val (.long c0_), .second, .val (.long d0_), .second, .val (.int sel), .val (.int pick), .val (.int (4 : Int32)), .val (.long a0_), .second, .val (.long b), .second, .val (.long c), .second, .val (.long d), .second, .val (.ref ad1), .val (.ref ad57), .val (.int (-1 : Int32)), .val (.long (f1 (f1 (f1 a0_ b) c) d)), .second, .val (.int (3 : Int32)), .unset, .unset, .unset, .unset]) at_248 rfl rfl ?_
              exact J210_250 _ (by first | simp only [if_neg hc210, if_neg hc224, if_neg hc238] | rfl)
      intro fi hfi
      refine OwnW.iload (pc' := 252) at_250 rfl rfl ?_
      refine OwnW.ifcY (pc' := 270) at_252 ((if0 _ _).trans (tlt (by decide)).1) (by decide) (by decide) ?_
      refine OwnW.iconst (pc' := 271) (v := (0 : Int32)) at_270 rfl rfl ?_
      refine OwnW.istore (pc' := 273) (L' := #[.val (.long a0_), .second, .val (.long b0_), .second, .val (.long c0_), .second, .val (.long d0_), .second, .val (.int sel), .val (.int pick), .val (.int (4 : Int32)), .val (.long a0_), .second, .val (.long b), .second, .val (.long c), .second, .val (.long d), .second, .val (.ref ad1), .val (.ref ad57), .val (.int (-1 : Int32)), .val (.long (f1 (f1 (f1 a0_ b) c) d)), .second, .val (.int fi), .val (.int (0 : Int32)), .unset, .unset, .unset]) at_271 rfl rfl ?_
      refine OwnW.iload (pc' := 275) at_273 rfl rfl ?_
      refine OwnW.ifcY (pc' := 283) at_275 ((if0 _ _).trans (teq (by decide)).1) (by decide) (by decide) ?_
      refine OwnW.iload (pc' := 285) at_283 rfl rfl ?_
      refine OwnW.istore (pc' := 287) (L' := #[.val (.long a0_), .second, .val (.long b0_), .second, .val (.long c0_), .second, .val (.long d0_), .second, .val (.int sel), .val (.int pick), .val (.int (4 : Int32)), .val (.long a0_), .second, .val (.long b), .second, .val (.long c), .second, .val (.long d), .second, .val (.ref ad1), .val (.ref ad57), .val (.int (-1 : Int32)), .val (.long (f1 (f1 (f1 a0_ b) c) d)), .second, .val (.int fi), .val (.int (0 : Int32)), .val (.int fi), .unset, .unset]) at_285 rfl rfl ?_
      refine OwnW.aload (pc' := 289) at_287 rfl (rfl) rfl ?_
      refine OwnW.iload (pc' := 291) at_289 rfl rfl ?_
      refine OwnW.callS0 (a0 := a0) (pc' := 294) (W := 0) (k' := 2) (n' := 8) (argsL := [(.ref ad57), (.int (-1 : Int32))]) (rest := []) (St' := [(.int (f2_4_0 ad57 kc57 a0_ b c d))]) at_291 (hw _ (List.mem_of_getElem? (i := 6) rfl)) (hw _ (List.mem_of_getElem? (i := 7) rfl)) (hw _ (List.mem_of_getElem? (i := 8) rfl)) (hw _ (List.mem_of_getElem? (i := 9) rfl)) (by decide) (rm2_4_0 l Z a0 hw ad57 kc57 a0_ b c d h64 n0 V64) (by decide) (by decide) rfl rfl (by decide) (by decide) rfl pd_285bJI29I rfl rfl rfl (Nat.le_of_ble_eq_true rfl) rfl rfl ?_
      refine OwnW.istore (pc' := 296) (L' := #[.val (.long a0_), .second, .val (.long b0_), .second, .val (.long c0_), .second, .val (.long d0_), .second, .val (.int sel), .val (.int pick), .val (.int (4 : Int32)), .val (.long a0_), .second, .val (.long b), .second, .val (.long c), .second, .val (.long d), .second, .val (.ref ad1), .val (.ref ad57), .val (.int (-1 : Int32)), .val (.long (f1 (f1 (f1 a0_ b) c) d)), .second, .val (.int fi), .val (.int (0 : Int32)), .val (.int fi), .val (.int (f2_4_0 ad57 kc57 a0_ b c d)), .unset]) at_294 rfl rfl ?_
      refine OwnW.aload (pc' := 298) at_296 rfl (rfl) rfl ?_
      refine OwnW.iconst (pc' := 299) (v := (0 : Int32)) at_298 rfl rfl ?_
      obtain ⟨cl66, Ar66, qk66, Sz66, Mn66, Hv66, Gf66⟩ := id V64
      refine OwnW.laload (pc' := 300) (v := (.long a0_)) at_299 Ar66 (inb_of Sz66 ⟨by decide, by decide⟩) (Hv66.at (inb_of Sz66 ⟨by decide, by decide⟩) rfl) rfl ?_
      refine OwnW.lload (pc' := 302) at_300 rfl rfl ?_
      refine OwnW.lcmp (pc' := 303) at_302 rfl ?_
      refine OwnW.ifcN (pc' := 306) at_303 ((if0 _ _).trans (teq ((lw_eq _ _).mpr rfl)).2) rfl ?_
      refine OwnW.iconst (pc' := 307) (v := (1 : Int32)) at_306 rfl rfl ?_
      refine OwnW.goto (pc' := 311) at_307 (by decide) (by decide) ?_
      refine OwnW.istore (pc' := 313) (L' := #[.val (.long a0_), .second, .val (.long b0_), .second, .val (.long c0_), .second, .val (.long d0_), .second, .val (.int sel), .val (.int pick), .val (.int (4 : Int32)), .val (.long a0_), .second, .val (.long b), .second, .val (.long c), .second, .val (.long d), .second, .val (.ref ad1), .val (.ref ad57), .val (.int (-1 : Int32)), .val (.long (f1 (f1 (f1 a0_ b) c) d)), .second, .val (.int fi), .val (.int (0 : Int32)), .val (.int fi), .val (.int (f2_4_0 ad57 kc57 a0_ b c d)), .val (.int (1 : Int32))]) at_311 rfl rfl ?_
      refine OwnW.iload (pc' := 315) at_313 rfl rfl ?_
      refine OwnW.iconst (pc' := 316) (v := (1 : Int32)) at_315 rfl rfl ?_
      refine OwnW.icmpN (pc' := 319) at_316 (tlt (by decide)).2.2.2 rfl ?_
      refine OwnW.iload (pc' := 321) at_319 rfl rfl ?_
      refine OwnW.ifcN (pc' := 324) at_321 ((if0 _ _).trans (feq (by decide)).1) rfl ?_
      refine OwnW.aload (pc' := 326) at_324 rfl (rfl) rfl ?_
      refine OwnW.iconst (pc' := 327) (v := (1 : Int32)) at_326 rfl rfl ?_
      obtain ⟨cl67, Ar67, qk67, Sz67, Mn67, Hv67, Gf67⟩ := id V64
      refine OwnW.laload (pc' := 328) (v := (.long b)) at_327 Ar67 (inb_of Sz67 ⟨by decide, by decide⟩) (Hv67.at (inb_of Sz67 ⟨by decide, by decide⟩) rfl) rfl ?_
      refine OwnW.lload (pc' := 330) at_328 rfl rfl ?_
      refine OwnW.lcmp (pc' := 331) at_330 rfl ?_
      refine OwnW.ifcN (pc' := 334) at_331 ((if0 _ _).trans (teq ((lw_eq _ _).mpr rfl)).2) rfl ?_
      refine OwnW.iconst (pc' := 335) (v := (1 : Int32)) at_334 rfl rfl ?_
      refine OwnW.goto (pc' := 339) at_335 (by decide) (by decide) ?_
      refine OwnW.istore (pc' := 341) (L' := #[.val (.long a0_), .second, .val (.long b0_), .second, .val (.long c0_), .second, .val (.long d0_), .second, .val (.int sel), .val (.int pick), .val (.int (4 : Int32)), .val (.long a0_), .second, .val (.long b), .second, .val (.long c), .second, .val (.long d), .second, .val (.ref ad1), .val (.ref ad57), .val (.int (-1 : Int32)), .val (.long (f1 (f1 (f1 a0_ b) c) d)), .second, .val (.int fi), .val (.int (0 : Int32)), .val (.int fi), .val (.int (f2_4_0 ad57 kc57 a0_ b c d)), .val (.int (1 : Int32))]) at_339 rfl rfl ?_
      refine OwnW.iload (pc' := 343) at_341 rfl rfl ?_
      refine OwnW.iconst (pc' := 344) (v := (2 : Int32)) at_343 rfl rfl ?_
      refine OwnW.icmpN (pc' := 347) at_344 (tlt (by decide)).2.2.2 rfl ?_
      refine OwnW.iload (pc' := 349) at_347 rfl rfl ?_
      refine OwnW.ifcN (pc' := 352) at_349 ((if0 _ _).trans (feq (by decide)).1) rfl ?_
      refine OwnW.aload (pc' := 354) at_352 rfl (rfl) rfl ?_
      refine OwnW.iconst (pc' := 355) (v := (2 : Int32)) at_354 rfl rfl ?_
      obtain ⟨cl68, Ar68, qk68, Sz68, Mn68, Hv68, Gf68⟩ := id V64
      refine OwnW.laload (pc' := 356) (v := (.long c)) at_355 Ar68 (inb_of Sz68 ⟨by decide, by decide⟩) (Hv68.at (inb_of Sz68 ⟨by decide, by decide⟩) rfl) rfl ?_
      refine OwnW.lload (pc' := 358) at_356 rfl rfl ?_
      refine OwnW.lcmp (pc' := 359) at_358 rfl ?_
      refine OwnW.ifcN (pc' := 362) at_359 ((if0 _ _).trans (teq ((lw_eq _ _).mpr rfl)).2) rfl ?_
      refine OwnW.iconst (pc' := 363) (v := (1 : Int32)) at_362 rfl rfl ?_
      refine OwnW.goto (pc' := 367) at_363 (by decide) (by decide) ?_
      refine OwnW.istore (pc' := 369) (L' := #[.val (.long a0_), .second, .val (.long b0_), .second, .val (.long c0_), .second, .val (.long d0_), .second, .val (.int sel), .val (.int pick), .val (.int (4 : Int32)), .val (.long a0_), .second, .val (.long b), .second, .val (.long c), .second, .val (.long d), .second, .val (.ref ad1), .val (.ref ad57), .val (.int (-1 : Int32)), .val (.long (f1 (f1 (f1 a0_ b) c) d)), .second, .val (.int fi), .val (.int (0 : Int32)), .val (.int fi), .val (.int (f2_4_0 ad57 kc57 a0_ b c d)), .val (.int (1 : Int32))]) at_367 rfl rfl ?_
      refine OwnW.iload (pc' := 371) at_369 rfl rfl ?_
      refine OwnW.iconst (pc' := 372) (v := (3 : Int32)) at_371 rfl rfl ?_
      refine OwnW.icmpN (pc' := 375) at_372 (tlt (by decide)).2.2.2 rfl ?_
      refine OwnW.iload (pc' := 377) at_375 rfl rfl ?_
      refine OwnW.ifcN (pc' := 380) at_377 ((if0 _ _).trans (feq (by decide)).1) rfl ?_
      refine OwnW.aload (pc' := 382) at_380 rfl (rfl) rfl ?_
      refine OwnW.iconst (pc' := 383) (v := (3 : Int32)) at_382 rfl rfl ?_
      obtain ⟨cl69, Ar69, qk69, Sz69, Mn69, Hv69, Gf69⟩ := id V64
      refine OwnW.laload (pc' := 384) (v := (.long d)) at_383 Ar69 (inb_of Sz69 ⟨by decide, by decide⟩) (Hv69.at (inb_of Sz69 ⟨by decide, by decide⟩) rfl) rfl ?_
      refine OwnW.lload (pc' := 386) at_384 rfl rfl ?_
      refine OwnW.lcmp (pc' := 387) at_386 rfl ?_
      refine OwnW.ifcN (pc' := 390) at_387 ((if0 _ _).trans (teq ((lw_eq _ _).mpr rfl)).2) rfl ?_
      refine OwnW.iconst (pc' := 391) (v := (1 : Int32)) at_390 rfl rfl ?_
      refine OwnW.goto (pc' := 395) at_391 (by decide) (by decide) ?_
      refine OwnW.istore (pc' := 397) (L' := #[.val (.long a0_), .second, .val (.long b0_), .second, .val (.long c0_), .second, .val (.long d0_), .second, .val (.int sel), .val (.int pick), .val (.int (4 : Int32)), .val (.long a0_), .second, .val (.long b), .second, .val (.long c), .second, .val (.long d), .second, .val (.ref ad1), .val (.ref ad57), .val (.int (-1 : Int32)), .val (.long (f1 (f1 (f1 a0_ b) c) d)), .second, .val (.int fi), .val (.int (0 : Int32)), .val (.int fi), .val (.int (f2_4_0 ad57 kc57 a0_ b c d)), .val (.int (1 : Int32))]) at_395 rfl rfl ?_
      refine OwnW.iload (pc' := 399) at_397 rfl rfl ?_
      refine OwnW.iload (pc' := 401) at_399 rfl rfl ?_
      by_cases hc401 : (f2_4_0 ad57 kc57 a0_ b c d) = fi
      ·
        refine OwnW.icmpN (pc' := 404) at_401 (teq hc401).2 rfl ?_
        refine OwnW.iload (pc' := 406) at_404 rfl rfl ?_
        refine OwnW.ifcN (pc' := 409) at_406 ((if0 _ _).trans (feq (by decide)).1) rfl ?_
        refine OwnW.iconst (pc' := 410) (v := (1 : Int32)) at_409 rfl rfl ?_
        refine OwnW.goto (pc' := 414) at_410 (by decide) (by decide) ?_
        exact OwnW.retN (t := .boolean) at_414 rfl (by simp) rfl (by decide) (by decide) (rfl)
      ·
        refine OwnW.icmpY (pc' := 413) at_401 (feq hc401).2 (by decide) (by decide) ?_
        refine OwnW.iconst (pc' := 414) (v := (0 : Int32)) at_413 rfl rfl ?_
        exact OwnW.retN (t := .boolean) at_414 rfl (by simp) rfl (by decide) (by decide) (absurd (own_law4_0 (d := d) hfi ) hc401)
    ·
      show GoB0 l Z n0 OwnW.One1 h64 2 8 156 #[.val (.long a0_), .second, .val (.long b0_), .second, .val (.long c0_), .second, .val (.long d0_), .second, .val (.int sel), .val (.int pick), .val (.int (4 : Int32)), .val (.long a0_), .second, .val (.long b), .second, .val (.long c), .second, .val (.long d), .second, .val (.ref ad1), .val (.ref ad57), .val (.int (0 : Int32)), .unset, .unset, .unset, .unset, .unset, .unset, .unset] []
      refine OwnW.lload (pc' := 158) at_156 rfl rfl ?_
      refine OwnW.lstore (pc' := 160) (L' := #[.val (.long a0_), .second, .val (.long b0_), .second, .val (.long c0_), .second, .val (.long d0_), .second, .val (.int sel), .val (.int pick), .val (.int (4 : Int32)), .val (.long a0_), .second, .val (.long b), .second, .val (.long c), .second, .val (.long d), .second, .val (.ref ad1), .val (.ref ad57), .val (.int (0 : Int32)), .val (.long a0_), .second, .unset, .unset, .unset, .unset, .unset]) at_158 rfl rfl ?_
      refine OwnW.iload (pc' := 162) at_160 rfl rfl ?_
      refine OwnW.iconst (pc' := 163) (v := (1 : Int32)) at_162 rfl rfl ?_
      refine OwnW.icmpN (pc' := 166) at_163 (tlt (by decide)).2.2.2 rfl ?_
      refine OwnW.lload (pc' := 168) at_166 rfl rfl ?_
      refine OwnW.lload (pc' := 170) at_168 rfl rfl ?_
      refine OwnW.callS0 (a0 := a0) (pc' := 173) (W := 0) (k' := 2) (n' := 8) (argsL := [(.long a0_), (.long b)]) (rest := []) (St' := [(.long (f1 a0_ b))]) at_170 (hw _ (List.mem_of_getElem? (i := 2) rfl)) (hw _ (List.mem_of_getElem? (i := 3) rfl)) (hw _ (List.mem_of_getElem? (i := 4) rfl)) (hw _ (List.mem_of_getElem? (i := 5) rfl)) (by decide) (rm1 l Z a0 hw a0_ b h64 n0) (by decide) (by decide) rfl rfl (by decide) (by decide) rfl pd_28JJ29J rfl rfl rfl (Nat.le_of_ble_eq_true rfl) rfl rfl ?_
      refine OwnW.lstore (pc' := 175) (L' := #[.val (.long a0_), .second, .val (.long b0_), .second, .val (.long c0_), .second, .val (.long d0_), .second, .val (.int sel), .val (.int pick), .val (.int (4 : Int32)), .val (.long a0_), .second, .val (.long b), .second, .val (.long c), .second, .val (.long d), .second, .val (.ref ad1), .val (.ref ad57), .val (.int (0 : Int32)), .val (.long (f1 a0_ b)), .second, .unset, .unset, .unset, .unset, .unset]) at_173 rfl rfl ?_
      refine OwnW.iload (pc' := 177) at_175 rfl rfl ?_
      refine OwnW.iconst (pc' := 178) (v := (2 : Int32)) at_177 rfl rfl ?_
      refine OwnW.icmpN (pc' := 181) at_178 (tlt (by decide)).2.2.2 rfl ?_
      refine OwnW.lload (pc' := 183) at_181 rfl rfl ?_
      refine OwnW.lload (pc' := 185) at_183 rfl rfl ?_
      refine OwnW.callS0 (a0 := a0) (pc' := 188) (W := 0) (k' := 2) (n' := 8) (argsL := [(.long (f1 a0_ b)), (.long c)]) (rest := []) (St' := [(.long (f1 (f1 a0_ b) c))]) at_185 (hw _ (List.mem_of_getElem? (i := 2) rfl)) (hw _ (List.mem_of_getElem? (i := 3) rfl)) (hw _ (List.mem_of_getElem? (i := 4) rfl)) (hw _ (List.mem_of_getElem? (i := 5) rfl)) (by decide) (rm1 l Z a0 hw (f1 a0_ b) c h64 n0) (by decide) (by decide) rfl rfl (by decide) (by decide) rfl pd_28JJ29J rfl rfl rfl (Nat.le_of_ble_eq_true rfl) rfl rfl ?_
      refine OwnW.lstore (pc' := 190) (L' := #[.val (.long a0_), .second, .val (.long b0_), .second, .val (.long c0_), .second, .val (.long d0_), .second, .val (.int sel), .val (.int pick), .val (.int (4 : Int32)), .val (.long a0_), .second, .val (.long b), .second, .val (.long c), .second, .val (.long d), .second, .val (.ref ad1), .val (.ref ad57), .val (.int (0 : Int32)), .val (.long (f1 (f1 a0_ b) c)), .second, .unset, .unset, .unset, .unset, .unset]) at_188 rfl rfl ?_
      refine OwnW.iload (pc' := 192) at_190 rfl rfl ?_
      refine OwnW.iconst (pc' := 193) (v := (3 : Int32)) at_192 rfl rfl ?_
      refine OwnW.icmpN (pc' := 196) at_193 (tlt (by decide)).2.2.2 rfl ?_
      refine OwnW.lload (pc' := 198) at_196 rfl rfl ?_
      refine OwnW.lload (pc' := 200) at_198 rfl rfl ?_
      refine OwnW.callS0 (a0 := a0) (pc' := 203) (W := 0) (k' := 2) (n' := 8) (argsL := [(.long (f1 (f1 a0_ b) c)), (.long d)]) (rest := []) (St' := [(.long (f1 (f1 (f1 a0_ b) c) d))]) at_200 (hw _ (List.mem_of_getElem? (i := 2) rfl)) (hw _ (List.mem_of_getElem? (i := 3) rfl)) (hw _ (List.mem_of_getElem? (i := 4) rfl)) (hw _ (List.mem_of_getElem? (i := 5) rfl)) (by decide) (rm1 l Z a0 hw (f1 (f1 a0_ b) c) d h64 n0) (by decide) (by decide) rfl rfl (by decide) (by decide) rfl pd_28JJ29J rfl rfl rfl (Nat.le_of_ble_eq_true rfl) rfl rfl ?_
      refine OwnW.lstore (pc' := 205) (L' := #[.val (.long a0_), .second, .val (.long b0_), .second, .val (.long c0_), .second, .val (.long d0_), .second, .val (.int sel), .val (.int pick), .val (.int (4 : Int32)), .val (.long a0_), .second, .val (.long b), .second, .val (.long c), .second, .val (.long d), .second, .val (.ref ad1), .val (.ref ad57), .val (.int (0 : Int32)), .val (.long (f1 (f1 (f1 a0_ b) c) d)), .second, .unset, .unset, .unset, .unset, .unset]) at_203 rfl rfl ?_
      refine OwnW.lload (pc' := 207) at_205 rfl rfl ?_
      refine OwnW.lload (pc' := 209) at_207 rfl rfl ?_
      refine OwnW.lcmp (pc' := 210) at_209 rfl ?_
      suffices J210_250 : ∀ (fi : Int32), fi = (if (lcmpW a0_ (f1 (f1 (f1 a0_ b) c) d)) = (0 : Int32) then (0 : Int32) else (if (lcmpW b (f1 (f1 (f1 a0_ b) c) d)) = (0 : Int32) then (1 : Int32) else (if (lcmpW c (f1 (f1 (f1 a0_ b) c) d)) = (0 : Int32) then (2 : Int32) else (3 : Int32)))) → GoB0 l Z n0 OwnW.One1 h64 2 8 250 #[.val (.long a0_), .second, .val (.long b0_), .second, .val (.long c0_), .second, .val (.long d0_), .second, .val (.int sel), .val (.int pick), .val (.int (4 : Int32)), .val (.long a0_), .second, .val (.long b), .second, .val (.long c), .second, .val (.long d), .second, .val (.ref ad1), .val (.ref ad57), .val (.int (0 : Int32)), .val (.long (f1 (f1 (f1 a0_ b) c) d)), .second, .val (.int fi), .unset, .unset, .unset, .unset] [] by
        by_cases hc210 : (lcmpW a0_ (f1 (f1 (f1 a0_ b) c) d)) = (0 : Int32)
        ·
          refine OwnW.ifcN (pc' := 213) at_210 ((if0 _ _).trans (teq hc210).2) rfl ?_
          refine OwnW.iconst (pc' := 214) (v := (0 : Int32)) at_213 rfl rfl ?_
          refine OwnW.istore (pc' := 216) (L' := #[.val (.long a0_), .second, .val (.long b0_), .second, .val (.long c0_), .second, .val (.long d0_), .second, .val (.int sel), .val (.int pick), .val (.int (4 : Int32)), .val (.long a0_), .second, .val (.long b), .second, .val (.long c), .second, .val (.long d), .second, .val (.ref ad1), .val (.ref ad57), .val (.int (0 : Int32)), .val (.long (f1 (f1 (f1 a0_ b) c) d)), .second, .val (.int (0 : Int32)), .unset, .unset, .unset, .unset]) at_214 rfl rfl ?_
          refine OwnW.goto (pc' := 250) at_216 (by decide) (by decide) ?_
          exact J210_250 _ (by first | simp only [if_pos hc210] | rfl)
        ·
          refine OwnW.ifcY (pc' := 219) at_210 ((if0 _ _).trans (feq hc210).2) (by decide) (by decide) ?_
          refine OwnW.lload (pc' := 221) at_219 rfl rfl ?_
          refine OwnW.lload (pc' := 223) at_221 rfl rfl ?_
          refine OwnW.lcmp (pc' := 224) at_223 rfl ?_
          by_cases hc224 : (lcmpW b (f1 (f1 (f1 a0_ b) c) d)) = (0 : Int32)
          ·
            refine OwnW.ifcN (pc' := 227) at_224 ((if0 _ _).trans (teq hc224).2) rfl ?_
            refine OwnW.iconst (pc' := 228) (v := (1 : Int32)) at_227 rfl rfl ?_
            refine OwnW.istore (pc' := 230) (L' := #[.val (.long a0_), .second, .val (.long b0_), .second, .val (.long c0_), .second, .val (.long d0_), .second, .val (.int sel), .val (.int pick), .val (.int (4 : Int32)), .val (.long a0_), .second, .val (.long b), .second, .val (.long c), .second, .val (.long d), .second, .val (.ref ad1), .val (.ref ad57), .val (.int (0 : Int32)), .val (.long (f1 (f1 (f1 a0_ b) c) d)), .second, .val (.int (1 : Int32)), .unset, .unset, .unset, .unset]) at_228 rfl rfl ?_
            refine OwnW.goto (pc' := 250) at_230 (by decide) (by decide) ?_
            exact J210_250 _ (by first | simp only [if_neg hc210, if_pos hc224] | rfl)
          ·
            refine OwnW.ifcY (pc' := 233) at_224 ((if0 _ _).trans (feq hc224).2) (by decide) (by decide) ?_
            refine OwnW.lload (pc' := 235) at_233 rfl rfl ?_
            refine OwnW.lload (pc' := 237) at_235 rfl rfl ?_
            refine OwnW.lcmp (pc' := 238) at_237 rfl ?_
            by_cases hc238 : (lcmpW c (f1 (f1 (f1 a0_ b) c) d)) = (0 : Int32)
            ·
              refine OwnW.ifcN (pc' := 241) at_238 ((if0 _ _).trans (teq hc238).2) rfl ?_
              refine OwnW.iconst (pc' := 242) (v := (2 : Int32)) at_241 rfl rfl ?_
              refine OwnW.istore (pc' := 244) (L' := #[.val (.long a0_), .second, .val (.long b0_), .second, .val (.long c0_), .second, .val (.long d0_), .second, .val (.int sel), .val (.int pick), .val (.int (4 : Int32)), .val (.long a0_), .second, .val (.long b), .second, .val (.long c), .second, .val (.long d), .second, .val (.ref ad1), .val (.ref ad57), .val (.int (0 : Int32)), .val (.long (f1 (f1 (f1 a0_ b) c) d)), .second, .val (.int (2 : Int32)), .unset, .unset, .unset, .unset]) at_242 rfl rfl ?_
              refine OwnW.goto (pc' := 250) at_244 (by decide) (by decide) ?_
              exact J210_250 _ (by first | simp only [if_neg hc210, if_neg hc224, if_pos hc238] | rfl)
            ·
              refine OwnW.ifcY (pc' := 247) at_238 ((if0 _ _).trans (feq hc238).2) (by decide) (by decide) ?_
              refine OwnW.iconst (pc' := 248) (v := (3 : Int32)) at_247 rfl rfl ?_
              refine OwnW.istore (pc' := 250) (L' := #[.val (.long a0_), .second, .val (.long b0_), .second, .val (.long c0_), .second, .val (.long d0_), .second, .val (.int sel), .val (.int pick), .val (.int (4 : Int32)), .val (.long a0_), .second, .val (.long b), .second, .val (.long c), .second, .val (.long d), .second, .val (.ref ad1), .val (.ref ad57), .val (.int (0 : Int32)), .val (.long (f1 (f1 (f1 a0_ b) c) d)), .second, .val (.int (3 : Int32)), .unset, .unset, .unset, .unset]) at_248 rfl rfl ?_
              exact J210_250 _ (by first | simp only [if_neg hc210, if_neg hc224, if_neg hc238] | rfl)
      intro fi hfi
      refine OwnW.iload (pc' := 252) at_250 rfl rfl ?_
      refine OwnW.ifcN (pc' := 255) at_252 ((if0 _ _).trans (flt (by decide)).1) rfl ?_
      refine OwnW.aload (pc' := 257) at_255 rfl (rfl) rfl ?_
      refine OwnW.iload (pc' := 259) at_257 rfl rfl ?_
      have F70 := (((((V8.ext E57).other W58 (Nat.ne_of_lt lt_ad1_ad57)).other W60 (Nat.ne_of_lt lt_ad1_ad57)).other W62 (Nat.ne_of_lt lt_ad1_ad57)).other W64 (Nat.ne_of_lt lt_ad1_ad57))
      obtain ⟨cl71, Ar71, qk71, Sz71, Mn71, Hv71, Gf71⟩ := id F70
      refine OwnW.laload (pc' := 260) (v := (.long a0_)) at_259 Ar71 (inb_of Sz71 ⟨by decide, by decide⟩) (Hv71.at (inb_of Sz71 ⟨by decide, by decide⟩) rfl) rfl ?_
      refine OwnW.lload (pc' := 262) at_260 rfl rfl ?_
      refine OwnW.lcmp (pc' := 263) at_262 rfl ?_
      suffices J263_271 : ∀ (kp : Int32), kp = (if (lcmpW a0_ (f1 (f1 (f1 a0_ b) c) d)) = (0 : Int32) then (1 : Int32) else (0 : Int32)) → GoB0 l Z n0 OwnW.One1 h64 2 8 271 #[.val (.long a0_), .second, .val (.long b0_), .second, .val (.long c0_), .second, .val (.long d0_), .second, .val (.int sel), .val (.int pick), .val (.int (4 : Int32)), .val (.long a0_), .second, .val (.long b), .second, .val (.long c), .second, .val (.long d), .second, .val (.ref ad1), .val (.ref ad57), .val (.int (0 : Int32)), .val (.long (f1 (f1 (f1 a0_ b) c) d)), .second, .val (.int fi), .unset, .unset, .unset, .unset] [(.int kp)] by
        by_cases hc263 : (lcmpW a0_ (f1 (f1 (f1 a0_ b) c) d)) = (0 : Int32)
        ·
          refine OwnW.ifcN (pc' := 266) at_263 ((if0 _ _).trans (teq hc263).2) rfl ?_
          refine OwnW.iconst (pc' := 267) (v := (1 : Int32)) at_266 rfl rfl ?_
          refine OwnW.goto (pc' := 271) at_267 (by decide) (by decide) ?_
          exact J263_271 _ (by first | simp only [if_pos hc263] | rfl)
        ·
          refine OwnW.ifcY (pc' := 270) at_263 ((if0 _ _).trans (feq hc263).2) (by decide) (by decide) ?_
          refine OwnW.iconst (pc' := 271) (v := (0 : Int32)) at_270 rfl rfl ?_
          exact J263_271 _ (by first | simp only [if_neg hc263] | rfl)
      intro kp hkp
      refine OwnW.istore (pc' := 273) (L' := #[.val (.long a0_), .second, .val (.long b0_), .second, .val (.long c0_), .second, .val (.long d0_), .second, .val (.int sel), .val (.int pick), .val (.int (4 : Int32)), .val (.long a0_), .second, .val (.long b), .second, .val (.long c), .second, .val (.long d), .second, .val (.ref ad1), .val (.ref ad57), .val (.int (0 : Int32)), .val (.long (f1 (f1 (f1 a0_ b) c) d)), .second, .val (.int fi), .val (.int kp), .unset, .unset, .unset]) at_271 rfl rfl ?_
      refine OwnW.iload (pc' := 275) at_273 rfl rfl ?_
      suffices J275_285 : ∀ (ex : Int32), ex = (if kp = (0 : Int32) then fi else (0 : Int32)) → GoB0 l Z n0 OwnW.One1 h64 2 8 285 #[.val (.long a0_), .second, .val (.long b0_), .second, .val (.long c0_), .second, .val (.long d0_), .second, .val (.int sel), .val (.int pick), .val (.int (4 : Int32)), .val (.long a0_), .second, .val (.long b), .second, .val (.long c), .second, .val (.long d), .second, .val (.ref ad1), .val (.ref ad57), .val (.int (0 : Int32)), .val (.long (f1 (f1 (f1 a0_ b) c) d)), .second, .val (.int fi), .val (.int kp), .unset, .unset, .unset] [(.int ex)] by
        by_cases hc275 : kp = (0 : Int32)
        ·
          refine OwnW.ifcY (pc' := 283) at_275 ((if0 _ _).trans (teq hc275).1) (by decide) (by decide) ?_
          refine OwnW.iload (pc' := 285) at_283 rfl rfl ?_
          exact J275_285 _ (by first | simp only [if_pos hc275] | rfl)
        ·
          refine OwnW.ifcN (pc' := 278) at_275 ((if0 _ _).trans (feq hc275).1) rfl ?_
          refine OwnW.iload (pc' := 280) at_278 rfl rfl ?_
          refine OwnW.goto (pc' := 285) at_280 (by decide) (by decide) ?_
          exact J275_285 _ (by first | simp only [if_neg hc275] | rfl)
      intro ex hex
      refine OwnW.istore (pc' := 287) (L' := #[.val (.long a0_), .second, .val (.long b0_), .second, .val (.long c0_), .second, .val (.long d0_), .second, .val (.int sel), .val (.int pick), .val (.int (4 : Int32)), .val (.long a0_), .second, .val (.long b), .second, .val (.long c), .second, .val (.long d), .second, .val (.ref ad1), .val (.ref ad57), .val (.int (0 : Int32)), .val (.long (f1 (f1 (f1 a0_ b) c) d)), .second, .val (.int fi), .val (.int kp), .val (.int ex), .unset, .unset]) at_285 rfl rfl ?_
      refine OwnW.aload (pc' := 289) at_287 rfl (rfl) rfl ?_
      refine OwnW.iload (pc' := 291) at_289 rfl rfl ?_
      refine OwnW.callS0 (a0 := a0) (pc' := 294) (W := 0) (k' := 2) (n' := 8) (argsL := [(.ref ad57), (.int (0 : Int32))]) (rest := []) (St' := [(.int (f2_4_1 ad57 kc57 a0_ b c d))]) at_291 (hw _ (List.mem_of_getElem? (i := 6) rfl)) (hw _ (List.mem_of_getElem? (i := 7) rfl)) (hw _ (List.mem_of_getElem? (i := 8) rfl)) (hw _ (List.mem_of_getElem? (i := 9) rfl)) (by decide) (rm2_4_1 l Z a0 hw ad57 kc57 a0_ b c d h64 n0 V64) (by decide) (by decide) rfl rfl (by decide) (by decide) rfl pd_285bJI29I rfl rfl rfl (Nat.le_of_ble_eq_true rfl) rfl rfl ?_
      refine OwnW.istore (pc' := 296) (L' := #[.val (.long a0_), .second, .val (.long b0_), .second, .val (.long c0_), .second, .val (.long d0_), .second, .val (.int sel), .val (.int pick), .val (.int (4 : Int32)), .val (.long a0_), .second, .val (.long b), .second, .val (.long c), .second, .val (.long d), .second, .val (.ref ad1), .val (.ref ad57), .val (.int (0 : Int32)), .val (.long (f1 (f1 (f1 a0_ b) c) d)), .second, .val (.int fi), .val (.int kp), .val (.int ex), .val (.int (f2_4_1 ad57 kc57 a0_ b c d)), .unset]) at_294 rfl rfl ?_
      refine OwnW.aload (pc' := 298) at_296 rfl (rfl) rfl ?_
      refine OwnW.iconst (pc' := 299) (v := (0 : Int32)) at_298 rfl rfl ?_
      obtain ⟨cl72, Ar72, qk72, Sz72, Mn72, Hv72, Gf72⟩ := id V64
      refine OwnW.laload (pc' := 300) (v := (.long a0_)) at_299 Ar72 (inb_of Sz72 ⟨by decide, by decide⟩) (Hv72.at (inb_of Sz72 ⟨by decide, by decide⟩) rfl) rfl ?_
      refine OwnW.lload (pc' := 302) at_300 rfl rfl ?_
      refine OwnW.lcmp (pc' := 303) at_302 rfl ?_
      refine OwnW.ifcN (pc' := 306) at_303 ((if0 _ _).trans (teq ((lw_eq _ _).mpr rfl)).2) rfl ?_
      refine OwnW.iconst (pc' := 307) (v := (1 : Int32)) at_306 rfl rfl ?_
      refine OwnW.goto (pc' := 311) at_307 (by decide) (by decide) ?_
      refine OwnW.istore (pc' := 313) (L' := #[.val (.long a0_), .second, .val (.long b0_), .second, .val (.long c0_), .second, .val (.long d0_), .second, .val (.int sel), .val (.int pick), .val (.int (4 : Int32)), .val (.long a0_), .second, .val (.long b), .second, .val (.long c), .second, .val (.long d), .second, .val (.ref ad1), .val (.ref ad57), .val (.int (0 : Int32)), .val (.long (f1 (f1 (f1 a0_ b) c) d)), .second, .val (.int fi), .val (.int kp), .val (.int ex), .val (.int (f2_4_1 ad57 kc57 a0_ b c d)), .val (.int (1 : Int32))]) at_311 rfl rfl ?_
      refine OwnW.iload (pc' := 315) at_313 rfl rfl ?_
      refine OwnW.iconst (pc' := 316) (v := (1 : Int32)) at_315 rfl rfl ?_
      refine OwnW.icmpN (pc' := 319) at_316 (tlt (by decide)).2.2.2 rfl ?_
      refine OwnW.iload (pc' := 321) at_319 rfl rfl ?_
      refine OwnW.ifcN (pc' := 324) at_321 ((if0 _ _).trans (feq (by decide)).1) rfl ?_
      refine OwnW.aload (pc' := 326) at_324 rfl (rfl) rfl ?_
      refine OwnW.iconst (pc' := 327) (v := (1 : Int32)) at_326 rfl rfl ?_
      obtain ⟨cl73, Ar73, qk73, Sz73, Mn73, Hv73, Gf73⟩ := id V64
      refine OwnW.laload (pc' := 328) (v := (.long b)) at_327 Ar73 (inb_of Sz73 ⟨by decide, by decide⟩) (Hv73.at (inb_of Sz73 ⟨by decide, by decide⟩) rfl) rfl ?_
      refine OwnW.lload (pc' := 330) at_328 rfl rfl ?_
      refine OwnW.lcmp (pc' := 331) at_330 rfl ?_
      refine OwnW.ifcN (pc' := 334) at_331 ((if0 _ _).trans (teq ((lw_eq _ _).mpr rfl)).2) rfl ?_
      refine OwnW.iconst (pc' := 335) (v := (1 : Int32)) at_334 rfl rfl ?_
      refine OwnW.goto (pc' := 339) at_335 (by decide) (by decide) ?_
      refine OwnW.istore (pc' := 341) (L' := #[.val (.long a0_), .second, .val (.long b0_), .second, .val (.long c0_), .second, .val (.long d0_), .second, .val (.int sel), .val (.int pick), .val (.int (4 : Int32)), .val (.long a0_), .second, .val (.long b), .second, .val (.long c), .second, .val (.long d), .second, .val (.ref ad1), .val (.ref ad57), .val (.int (0 : Int32)), .val (.long (f1 (f1 (f1 a0_ b) c) d)), .second, .val (.int fi), .val (.int kp), .val (.int ex), .val (.int (f2_4_1 ad57 kc57 a0_ b c d)), .val (.int (1 : Int32))]) at_339 rfl rfl ?_
      refine OwnW.iload (pc' := 343) at_341 rfl rfl ?_
      refine OwnW.iconst (pc' := 344) (v := (2 : Int32)) at_343 rfl rfl ?_
      refine OwnW.icmpN (pc' := 347) at_344 (tlt (by decide)).2.2.2 rfl ?_
      refine OwnW.iload (pc' := 349) at_347 rfl rfl ?_
      refine OwnW.ifcN (pc' := 352) at_349 ((if0 _ _).trans (feq (by decide)).1) rfl ?_
      refine OwnW.aload (pc' := 354) at_352 rfl (rfl) rfl ?_
      refine OwnW.iconst (pc' := 355) (v := (2 : Int32)) at_354 rfl rfl ?_
      obtain ⟨cl74, Ar74, qk74, Sz74, Mn74, Hv74, Gf74⟩ := id V64
      refine OwnW.laload (pc' := 356) (v := (.long c)) at_355 Ar74 (inb_of Sz74 ⟨by decide, by decide⟩) (Hv74.at (inb_of Sz74 ⟨by decide, by decide⟩) rfl) rfl ?_
      refine OwnW.lload (pc' := 358) at_356 rfl rfl ?_
      refine OwnW.lcmp (pc' := 359) at_358 rfl ?_
      refine OwnW.ifcN (pc' := 362) at_359 ((if0 _ _).trans (teq ((lw_eq _ _).mpr rfl)).2) rfl ?_
      refine OwnW.iconst (pc' := 363) (v := (1 : Int32)) at_362 rfl rfl ?_
      refine OwnW.goto (pc' := 367) at_363 (by decide) (by decide) ?_
      refine OwnW.istore (pc' := 369) (L' := #[.val (.long a0_), .second, .val (.long b0_), .second, .val (.long c0_), .second, .val (.long d0_), .second, .val (.int sel), .val (.int pick), .val (.int (4 : Int32)), .val (.long a0_), .second, .val (.long b), .second, .val (.long c), .second, .val (.long d), .second, .val (.ref ad1), .val (.ref ad57), .val (.int (0 : Int32)), .val (.long (f1 (f1 (f1 a0_ b) c) d)), .second, .val (.int fi), .val (.int kp), .val (.int ex), .val (.int (f2_4_1 ad57 kc57 a0_ b c d)), .val (.int (1 : Int32))]) at_367 rfl rfl ?_
      refine OwnW.iload (pc' := 371) at_369 rfl rfl ?_
      refine OwnW.iconst (pc' := 372) (v := (3 : Int32)) at_371 rfl rfl ?_
      refine OwnW.icmpN (pc' := 375) at_372 (tlt (by decide)).2.2.2 rfl ?_
      refine OwnW.iload (pc' := 377) at_375 rfl rfl ?_
      refine OwnW.ifcN (pc' := 380) at_377 ((if0 _ _).trans (feq (by decide)).1) rfl ?_
      refine OwnW.aload (pc' := 382) at_380 rfl (rfl) rfl ?_
      refine OwnW.iconst (pc' := 383) (v := (3 : Int32)) at_382 rfl rfl ?_
      obtain ⟨cl75, Ar75, qk75, Sz75, Mn75, Hv75, Gf75⟩ := id V64
      refine OwnW.laload (pc' := 384) (v := (.long d)) at_383 Ar75 (inb_of Sz75 ⟨by decide, by decide⟩) (Hv75.at (inb_of Sz75 ⟨by decide, by decide⟩) rfl) rfl ?_
      refine OwnW.lload (pc' := 386) at_384 rfl rfl ?_
      refine OwnW.lcmp (pc' := 387) at_386 rfl ?_
      refine OwnW.ifcN (pc' := 390) at_387 ((if0 _ _).trans (teq ((lw_eq _ _).mpr rfl)).2) rfl ?_
      refine OwnW.iconst (pc' := 391) (v := (1 : Int32)) at_390 rfl rfl ?_
      refine OwnW.goto (pc' := 395) at_391 (by decide) (by decide) ?_
      refine OwnW.istore (pc' := 397) (L' := #[.val (.long a0_), .second, .val (.long b0_), .second, .val (.long c0_), .second, .val (.long d0_), .second, .val (.int sel), .val (.int pick), .val (.int (4 : Int32)), .val (.long a0_), .second, .val (.long b), .second, .val (.long c), .second, .val (.long d), .second, .val (.ref ad1), .val (.ref ad57), .val (.int (0 : Int32)), .val (.long (f1 (f1 (f1 a0_ b) c) d)), .second, .val (.int fi), .val (.int kp), .val (.int ex), .val (.int (f2_4_1 ad57 kc57 a0_ b c d)), .val (.int (1 : Int32))]) at_395 rfl rfl ?_
      refine OwnW.iload (pc' := 399) at_397 rfl rfl ?_
      refine OwnW.iload (pc' := 401) at_399 rfl rfl ?_
      by_cases hc401 : (f2_4_1 ad57 kc57 a0_ b c d) = ex
      ·
        refine OwnW.icmpN (pc' := 404) at_401 (teq hc401).2 rfl ?_
        refine OwnW.iload (pc' := 406) at_404 rfl rfl ?_
        refine OwnW.ifcN (pc' := 409) at_406 ((if0 _ _).trans (feq (by decide)).1) rfl ?_
        refine OwnW.iconst (pc' := 410) (v := (1 : Int32)) at_409 rfl rfl ?_
        refine OwnW.goto (pc' := 414) at_410 (by decide) (by decide) ?_
        exact OwnW.retN (t := .boolean) at_414 rfl (by simp) rfl (by decide) (by decide) (rfl)
      ·
        refine OwnW.icmpY (pc' := 413) at_401 (feq hc401).2 (by decide) (by decide) ?_
        refine OwnW.iconst (pc' := 414) (v := (0 : Int32)) at_413 rfl rfl ?_
        exact OwnW.retN (t := .boolean) at_414 rfl (by simp) rfl (by decide) (by decide) (absurd (own_law4_1 (d := d) hfi hkp hex) hc401)
    ·
      show GoB0 l Z n0 OwnW.One1 h64 2 8 156 #[.val (.long a0_), .second, .val (.long b0_), .second, .val (.long c0_), .second, .val (.long d0_), .second, .val (.int sel), .val (.int pick), .val (.int (4 : Int32)), .val (.long a0_), .second, .val (.long b), .second, .val (.long c), .second, .val (.long d), .second, .val (.ref ad1), .val (.ref ad57), .val (.int (1 : Int32)), .unset, .unset, .unset, .unset, .unset, .unset, .unset] []
      refine OwnW.lload (pc' := 158) at_156 rfl rfl ?_
      refine OwnW.lstore (pc' := 160) (L' := #[.val (.long a0_), .second, .val (.long b0_), .second, .val (.long c0_), .second, .val (.long d0_), .second, .val (.int sel), .val (.int pick), .val (.int (4 : Int32)), .val (.long a0_), .second, .val (.long b), .second, .val (.long c), .second, .val (.long d), .second, .val (.ref ad1), .val (.ref ad57), .val (.int (1 : Int32)), .val (.long a0_), .second, .unset, .unset, .unset, .unset, .unset]) at_158 rfl rfl ?_
      refine OwnW.iload (pc' := 162) at_160 rfl rfl ?_
      refine OwnW.iconst (pc' := 163) (v := (1 : Int32)) at_162 rfl rfl ?_
      refine OwnW.icmpN (pc' := 166) at_163 (tlt (by decide)).2.2.2 rfl ?_
      refine OwnW.lload (pc' := 168) at_166 rfl rfl ?_
      refine OwnW.lload (pc' := 170) at_168 rfl rfl ?_
      refine OwnW.callS0 (a0 := a0) (pc' := 173) (W := 0) (k' := 2) (n' := 8) (argsL := [(.long a0_), (.long b)]) (rest := []) (St' := [(.long (f1 a0_ b))]) at_170 (hw _ (List.mem_of_getElem? (i := 2) rfl)) (hw _ (List.mem_of_getElem? (i := 3) rfl)) (hw _ (List.mem_of_getElem? (i := 4) rfl)) (hw _ (List.mem_of_getElem? (i := 5) rfl)) (by decide) (rm1 l Z a0 hw a0_ b h64 n0) (by decide) (by decide) rfl rfl (by decide) (by decide) rfl pd_28JJ29J rfl rfl rfl (Nat.le_of_ble_eq_true rfl) rfl rfl ?_
      refine OwnW.lstore (pc' := 175) (L' := #[.val (.long a0_), .second, .val (.long b0_), .second, .val (.long c0_), .second, .val (.long d0_), .second, .val (.int sel), .val (.int pick), .val (.int (4 : Int32)), .val (.long a0_), .second, .val (.long b), .second, .val (.long c), .second, .val (.long d), .second, .val (.ref ad1), .val (.ref ad57), .val (.int (1 : Int32)), .val (.long (f1 a0_ b)), .second, .unset, .unset, .unset, .unset, .unset]) at_173 rfl rfl ?_
      refine OwnW.iload (pc' := 177) at_175 rfl rfl ?_
      refine OwnW.iconst (pc' := 178) (v := (2 : Int32)) at_177 rfl rfl ?_
      refine OwnW.icmpN (pc' := 181) at_178 (tlt (by decide)).2.2.2 rfl ?_
      refine OwnW.lload (pc' := 183) at_181 rfl rfl ?_
      refine OwnW.lload (pc' := 185) at_183 rfl rfl ?_
      refine OwnW.callS0 (a0 := a0) (pc' := 188) (W := 0) (k' := 2) (n' := 8) (argsL := [(.long (f1 a0_ b)), (.long c)]) (rest := []) (St' := [(.long (f1 (f1 a0_ b) c))]) at_185 (hw _ (List.mem_of_getElem? (i := 2) rfl)) (hw _ (List.mem_of_getElem? (i := 3) rfl)) (hw _ (List.mem_of_getElem? (i := 4) rfl)) (hw _ (List.mem_of_getElem? (i := 5) rfl)) (by decide) (rm1 l Z a0 hw (f1 a0_ b) c h64 n0) (by decide) (by decide) rfl rfl (by decide) (by decide) rfl pd_28JJ29J rfl rfl rfl (Nat.le_of_ble_eq_true rfl) rfl rfl ?_
      refine OwnW.lstore (pc' := 190) (L' := #[.val (.long a0_), .second, .val (.long b0_), .second, .val (.long c0_), .second, .val (.long d0_), .second, .val (.int sel), .val (.int pick), .val (.int (4 : Int32)), .val (.long a0_), .second, .val (.long b), .second, .val (.long c), .second, .val (.long d), .second, .val (.ref ad1), .val (.ref ad57), .val (.int (1 : Int32)), .val (.long (f1 (f1 a0_ b) c)), .second, .unset, .unset, .unset, .unset, .unset]) at_188 rfl rfl ?_
      refine OwnW.iload (pc' := 192) at_190 rfl rfl ?_
      refine OwnW.iconst (pc' := 193) (v := (3 : Int32)) at_192 rfl rfl ?_
      refine OwnW.icmpN (pc' := 196) at_193 (tlt (by decide)).2.2.2 rfl ?_
      refine OwnW.lload (pc' := 198) at_196 rfl rfl ?_
      refine OwnW.lload (pc' := 200) at_198 rfl rfl ?_
      refine OwnW.callS0 (a0 := a0) (pc' := 203) (W := 0) (k' := 2) (n' := 8) (argsL := [(.long (f1 (f1 a0_ b) c)), (.long d)]) (rest := []) (St' := [(.long (f1 (f1 (f1 a0_ b) c) d))]) at_200 (hw _ (List.mem_of_getElem? (i := 2) rfl)) (hw _ (List.mem_of_getElem? (i := 3) rfl)) (hw _ (List.mem_of_getElem? (i := 4) rfl)) (hw _ (List.mem_of_getElem? (i := 5) rfl)) (by decide) (rm1 l Z a0 hw (f1 (f1 a0_ b) c) d h64 n0) (by decide) (by decide) rfl rfl (by decide) (by decide) rfl pd_28JJ29J rfl rfl rfl (Nat.le_of_ble_eq_true rfl) rfl rfl ?_
      refine OwnW.lstore (pc' := 205) (L' := #[.val (.long a0_), .second, .val (.long b0_), .second, .val (.long c0_), .second, .val (.long d0_), .second, .val (.int sel), .val (.int pick), .val (.int (4 : Int32)), .val (.long a0_), .second, .val (.long b), .second, .val (.long c), .second, .val (.long d), .second, .val (.ref ad1), .val (.ref ad57), .val (.int (1 : Int32)), .val (.long (f1 (f1 (f1 a0_ b) c) d)), .second, .unset, .unset, .unset, .unset, .unset]) at_203 rfl rfl ?_
      refine OwnW.lload (pc' := 207) at_205 rfl rfl ?_
      refine OwnW.lload (pc' := 209) at_207 rfl rfl ?_
      refine OwnW.lcmp (pc' := 210) at_209 rfl ?_
      suffices J210_250 : ∀ (fi : Int32), fi = (if (lcmpW a0_ (f1 (f1 (f1 a0_ b) c) d)) = (0 : Int32) then (0 : Int32) else (if (lcmpW b (f1 (f1 (f1 a0_ b) c) d)) = (0 : Int32) then (1 : Int32) else (if (lcmpW c (f1 (f1 (f1 a0_ b) c) d)) = (0 : Int32) then (2 : Int32) else (3 : Int32)))) → GoB0 l Z n0 OwnW.One1 h64 2 8 250 #[.val (.long a0_), .second, .val (.long b0_), .second, .val (.long c0_), .second, .val (.long d0_), .second, .val (.int sel), .val (.int pick), .val (.int (4 : Int32)), .val (.long a0_), .second, .val (.long b), .second, .val (.long c), .second, .val (.long d), .second, .val (.ref ad1), .val (.ref ad57), .val (.int (1 : Int32)), .val (.long (f1 (f1 (f1 a0_ b) c) d)), .second, .val (.int fi), .unset, .unset, .unset, .unset] [] by
        by_cases hc210 : (lcmpW a0_ (f1 (f1 (f1 a0_ b) c) d)) = (0 : Int32)
        ·
          refine OwnW.ifcN (pc' := 213) at_210 ((if0 _ _).trans (teq hc210).2) rfl ?_
          refine OwnW.iconst (pc' := 214) (v := (0 : Int32)) at_213 rfl rfl ?_
          refine OwnW.istore (pc' := 216) (L' := #[.val (.long a0_), .second, .val (.long b0_), .second, .val (.long c0_), .second, .val (.long d0_), .second, .val (.int sel), .val (.int pick), .val (.int (4 : Int32)), .val (.long a0_), .second, .val (.long b), .second, .val (.long c), .second, .val (.long d), .second, .val (.ref ad1), .val (.ref ad57), .val (.int (1 : Int32)), .val (.long (f1 (f1 (f1 a0_ b) c) d)), .second, .val (.int (0 : Int32)), .unset, .unset, .unset, .unset]) at_214 rfl rfl ?_
          refine OwnW.goto (pc' := 250) at_216 (by decide) (by decide) ?_
          exact J210_250 _ (by first | simp only [if_pos hc210] | rfl)
        ·
          refine OwnW.ifcY (pc' := 219) at_210 ((if0 _ _).trans (feq hc210).2) (by decide) (by decide) ?_
          refine OwnW.lload (pc' := 221) at_219 rfl rfl ?_
          refine OwnW.lload (pc' := 223) at_221 rfl rfl ?_
          refine OwnW.lcmp (pc' := 224) at_223 rfl ?_
          by_cases hc224 : (lcmpW b (f1 (f1 (f1 a0_ b) c) d)) = (0 : Int32)
          ·
            refine OwnW.ifcN (pc' := 227) at_224 ((if0 _ _).trans (teq hc224).2) rfl ?_
            refine OwnW.iconst (pc' := 228) (v := (1 : Int32)) at_227 rfl rfl ?_
            refine OwnW.istore (pc' := 230) (L' := #[.val (.long a0_), .second, .val (.long b0_), .second, .val (.long c0_), .second, .val (.long d0_), .second, .val (.int sel), .val (.int pick), .val (.int (4 : Int32)), .val (.long a0_), .second, .val (.long b), .second, .val (.long c), .second, .val (.long d), .second, .val (.ref ad1), .val (.ref ad57), .val (.int (1 : Int32)), .val (.long (f1 (f1 (f1 a0_ b) c) d)), .second, .val (.int (1 : Int32)), .unset, .unset, .unset, .unset]) at_228 rfl rfl ?_
            refine OwnW.goto (pc' := 250) at_230 (by decide) (by decide) ?_
            exact J210_250 _ (by first | simp only [if_neg hc210, if_pos hc224] | rfl)
          ·
            refine OwnW.ifcY (pc' := 233) at_224 ((if0 _ _).trans (feq hc224).2) (by decide) (by decide) ?_
            refine OwnW.lload (pc' := 235) at_233 rfl rfl ?_
            refine OwnW.lload (pc' := 237) at_235 rfl rfl ?_
            refine OwnW.lcmp (pc' := 238) at_237 rfl ?_
            by_cases hc238 : (lcmpW c (f1 (f1 (f1 a0_ b) c) d)) = (0 : Int32)
            ·
              refine OwnW.ifcN (pc' := 241) at_238 ((if0 _ _).trans (teq hc238).2) rfl ?_
              refine OwnW.iconst (pc' := 242) (v := (2 : Int32)) at_241 rfl rfl ?_
              refine OwnW.istore (pc' := 244) (L' := #[.val (.long a0_), .second, .val (.long b0_), .second, .val (.long c0_), .second, .val (.long d0_), .second, .val (.int sel), .val (.int pick), .val (.int (4 : Int32)), .val (.long a0_), .second, .val (.long b), .second, .val (.long c), .second, .val (.long d), .second, .val (.ref ad1), .val (.ref ad57), .val (.int (1 : Int32)), .val (.long (f1 (f1 (f1 a0_ b) c) d)), .second, .val (.int (2 : Int32)), .unset, .unset, .unset, .unset]) at_242 rfl rfl ?_
              refine OwnW.goto (pc' := 250) at_244 (by decide) (by decide) ?_
              exact J210_250 _ (by first | simp only [if_neg hc210, if_neg hc224, if_pos hc238] | rfl)
            ·
              refine OwnW.ifcY (pc' := 247) at_238 ((if0 _ _).trans (feq hc238).2) (by decide) (by decide) ?_
              refine OwnW.iconst (pc' := 248) (v := (3 : Int32)) at_247 rfl rfl ?_
              refine OwnW.istore (pc' := 250) (L' := #[.val (.long a0_), .second, .val (.long b0_), .second, .val (.long c0_), .second, .val (.long d0_), .second, .val (.int sel), .val (.int pick), .val (.int (4 : Int32)), .val (.long a0_), .second, .val (.long b), .second, .val (.long c), .second, .val (.long d), .second, .val (.ref ad1), .val (.ref ad57), .val (.int (1 : Int32)), .val (.long (f1 (f1 (f1 a0_ b) c) d)), .second, .val (.int (3 : Int32)), .unset, .unset, .unset, .unset]) at_248 rfl rfl ?_
              exact J210_250 _ (by first | simp only [if_neg hc210, if_neg hc224, if_neg hc238] | rfl)
      intro fi hfi
      refine OwnW.iload (pc' := 252) at_250 rfl rfl ?_
      refine OwnW.ifcN (pc' := 255) at_252 ((if0 _ _).trans (flt (by decide)).1) rfl ?_
      refine OwnW.aload (pc' := 257) at_255 rfl (rfl) rfl ?_
      refine OwnW.iload (pc' := 259) at_257 rfl rfl ?_
      have F76 := (((((V8.ext E57).other W58 (Nat.ne_of_lt lt_ad1_ad57)).other W60 (Nat.ne_of_lt lt_ad1_ad57)).other W62 (Nat.ne_of_lt lt_ad1_ad57)).other W64 (Nat.ne_of_lt lt_ad1_ad57))
      obtain ⟨cl77, Ar77, qk77, Sz77, Mn77, Hv77, Gf77⟩ := id F76
      refine OwnW.laload (pc' := 260) (v := (.long b)) at_259 Ar77 (inb_of Sz77 ⟨by decide, by decide⟩) (Hv77.at (inb_of Sz77 ⟨by decide, by decide⟩) rfl) rfl ?_
      refine OwnW.lload (pc' := 262) at_260 rfl rfl ?_
      refine OwnW.lcmp (pc' := 263) at_262 rfl ?_
      suffices J263_271 : ∀ (kp : Int32), kp = (if (lcmpW b (f1 (f1 (f1 a0_ b) c) d)) = (0 : Int32) then (1 : Int32) else (0 : Int32)) → GoB0 l Z n0 OwnW.One1 h64 2 8 271 #[.val (.long a0_), .second, .val (.long b0_), .second, .val (.long c0_), .second, .val (.long d0_), .second, .val (.int sel), .val (.int pick), .val (.int (4 : Int32)), .val (.long a0_), .second, .val (.long b), .second, .val (.long c), .second, .val (.long d), .second, .val (.ref ad1), .val (.ref ad57), .val (.int (1 : Int32)), .val (.long (f1 (f1 (f1 a0_ b) c) d)), .second, .val (.int fi), .unset, .unset, .unset, .unset] [(.int kp)] by
        by_cases hc263 : (lcmpW b (f1 (f1 (f1 a0_ b) c) d)) = (0 : Int32)
        ·
          refine OwnW.ifcN (pc' := 266) at_263 ((if0 _ _).trans (teq hc263).2) rfl ?_
          refine OwnW.iconst (pc' := 267) (v := (1 : Int32)) at_266 rfl rfl ?_
          refine OwnW.goto (pc' := 271) at_267 (by decide) (by decide) ?_
          exact J263_271 _ (by first | simp only [if_pos hc263] | rfl)
        ·
          refine OwnW.ifcY (pc' := 270) at_263 ((if0 _ _).trans (feq hc263).2) (by decide) (by decide) ?_
          refine OwnW.iconst (pc' := 271) (v := (0 : Int32)) at_270 rfl rfl ?_
          exact J263_271 _ (by first | simp only [if_neg hc263] | rfl)
      intro kp hkp
      refine OwnW.istore (pc' := 273) (L' := #[.val (.long a0_), .second, .val (.long b0_), .second, .val (.long c0_), .second, .val (.long d0_), .second, .val (.int sel), .val (.int pick), .val (.int (4 : Int32)), .val (.long a0_), .second, .val (.long b), .second, .val (.long c), .second, .val (.long d), .second, .val (.ref ad1), .val (.ref ad57), .val (.int (1 : Int32)), .val (.long (f1 (f1 (f1 a0_ b) c) d)), .second, .val (.int fi), .val (.int kp), .unset, .unset, .unset]) at_271 rfl rfl ?_
      refine OwnW.iload (pc' := 275) at_273 rfl rfl ?_
      suffices J275_285 : ∀ (ex : Int32), ex = (if kp = (0 : Int32) then fi else (1 : Int32)) → GoB0 l Z n0 OwnW.One1 h64 2 8 285 #[.val (.long a0_), .second, .val (.long b0_), .second, .val (.long c0_), .second, .val (.long d0_), .second, .val (.int sel), .val (.int pick), .val (.int (4 : Int32)), .val (.long a0_), .second, .val (.long b), .second, .val (.long c), .second, .val (.long d), .second, .val (.ref ad1), .val (.ref ad57), .val (.int (1 : Int32)), .val (.long (f1 (f1 (f1 a0_ b) c) d)), .second, .val (.int fi), .val (.int kp), .unset, .unset, .unset] [(.int ex)] by
        by_cases hc275 : kp = (0 : Int32)
        ·
          refine OwnW.ifcY (pc' := 283) at_275 ((if0 _ _).trans (teq hc275).1) (by decide) (by decide) ?_
          refine OwnW.iload (pc' := 285) at_283 rfl rfl ?_
          exact J275_285 _ (by first | simp only [if_pos hc275] | rfl)
        ·
          refine OwnW.ifcN (pc' := 278) at_275 ((if0 _ _).trans (feq hc275).1) rfl ?_
          refine OwnW.iload (pc' := 280) at_278 rfl rfl ?_
          refine OwnW.goto (pc' := 285) at_280 (by decide) (by decide) ?_
          exact J275_285 _ (by first | simp only [if_neg hc275] | rfl)
      intro ex hex
      refine OwnW.istore (pc' := 287) (L' := #[.val (.long a0_), .second, .val (.long b0_), .second, .val (.long c0_), .second, .val (.long d0_), .second, .val (.int sel), .val (.int pick), .val (.int (4 : Int32)), .val (.long a0_), .second, .val (.long b), .second, .val (.long c), .second, .val (.long d), .second, .val (.ref ad1), .val (.ref ad57), .val (.int (1 : Int32)), .val (.long (f1 (f1 (f1 a0_ b) c) d)), .second, .val (.int fi), .val (.int kp), .val (.int ex), .unset, .unset]) at_285 rfl rfl ?_
      refine OwnW.aload (pc' := 289) at_287 rfl (rfl) rfl ?_
      refine OwnW.iload (pc' := 291) at_289 rfl rfl ?_
      refine OwnW.callS0 (a0 := a0) (pc' := 294) (W := 0) (k' := 2) (n' := 8) (argsL := [(.ref ad57), (.int (1 : Int32))]) (rest := []) (St' := [(.int (f2_4_2 ad57 kc57 a0_ b c d))]) at_291 (hw _ (List.mem_of_getElem? (i := 6) rfl)) (hw _ (List.mem_of_getElem? (i := 7) rfl)) (hw _ (List.mem_of_getElem? (i := 8) rfl)) (hw _ (List.mem_of_getElem? (i := 9) rfl)) (by decide) (rm2_4_2 l Z a0 hw ad57 kc57 a0_ b c d h64 n0 V64) (by decide) (by decide) rfl rfl (by decide) (by decide) rfl pd_285bJI29I rfl rfl rfl (Nat.le_of_ble_eq_true rfl) rfl rfl ?_
      refine OwnW.istore (pc' := 296) (L' := #[.val (.long a0_), .second, .val (.long b0_), .second, .val (.long c0_), .second, .val (.long d0_), .second, .val (.int sel), .val (.int pick), .val (.int (4 : Int32)), .val (.long a0_), .second, .val (.long b), .second, .val (.long c), .second, .val (.long d), .second, .val (.ref ad1), .val (.ref ad57), .val (.int (1 : Int32)), .val (.long (f1 (f1 (f1 a0_ b) c) d)), .second, .val (.int fi), .val (.int kp), .val (.int ex), .val (.int (f2_4_2 ad57 kc57 a0_ b c d)), .unset]) at_294 rfl rfl ?_
      refine OwnW.aload (pc' := 298) at_296 rfl (rfl) rfl ?_
      refine OwnW.iconst (pc' := 299) (v := (0 : Int32)) at_298 rfl rfl ?_
      obtain ⟨cl78, Ar78, qk78, Sz78, Mn78, Hv78, Gf78⟩ := id V64
      refine OwnW.laload (pc' := 300) (v := (.long a0_)) at_299 Ar78 (inb_of Sz78 ⟨by decide, by decide⟩) (Hv78.at (inb_of Sz78 ⟨by decide, by decide⟩) rfl) rfl ?_
      refine OwnW.lload (pc' := 302) at_300 rfl rfl ?_
      refine OwnW.lcmp (pc' := 303) at_302 rfl ?_
      refine OwnW.ifcN (pc' := 306) at_303 ((if0 _ _).trans (teq ((lw_eq _ _).mpr rfl)).2) rfl ?_
      refine OwnW.iconst (pc' := 307) (v := (1 : Int32)) at_306 rfl rfl ?_
      refine OwnW.goto (pc' := 311) at_307 (by decide) (by decide) ?_
      refine OwnW.istore (pc' := 313) (L' := #[.val (.long a0_), .second, .val (.long b0_), .second, .val (.long c0_), .second, .val (.long d0_), .second, .val (.int sel), .val (.int pick), .val (.int (4 : Int32)), .val (.long a0_), .second, .val (.long b), .second, .val (.long c), .second, .val (.long d), .second, .val (.ref ad1), .val (.ref ad57), .val (.int (1 : Int32)), .val (.long (f1 (f1 (f1 a0_ b) c) d)), .second, .val (.int fi), .val (.int kp), .val (.int ex), .val (.int (f2_4_2 ad57 kc57 a0_ b c d)), .val (.int (1 : Int32))]) at_311 rfl rfl ?_
      refine OwnW.iload (pc' := 315) at_313 rfl rfl ?_
      refine OwnW.iconst (pc' := 316) (v := (1 : Int32)) at_315 rfl rfl ?_
      refine OwnW.icmpN (pc' := 319) at_316 (tlt (by decide)).2.2.2 rfl ?_
      refine OwnW.iload (pc' := 321) at_319 rfl rfl ?_
      refine OwnW.ifcN (pc' := 324) at_321 ((if0 _ _).trans (feq (by decide)).1) rfl ?_
      refine OwnW.aload (pc' := 326) at_324 rfl (rfl) rfl ?_
      refine OwnW.iconst (pc' := 327) (v := (1 : Int32)) at_326 rfl rfl ?_
      obtain ⟨cl79, Ar79, qk79, Sz79, Mn79, Hv79, Gf79⟩ := id V64
      refine OwnW.laload (pc' := 328) (v := (.long b)) at_327 Ar79 (inb_of Sz79 ⟨by decide, by decide⟩) (Hv79.at (inb_of Sz79 ⟨by decide, by decide⟩) rfl) rfl ?_
      refine OwnW.lload (pc' := 330) at_328 rfl rfl ?_
      refine OwnW.lcmp (pc' := 331) at_330 rfl ?_
      refine OwnW.ifcN (pc' := 334) at_331 ((if0 _ _).trans (teq ((lw_eq _ _).mpr rfl)).2) rfl ?_
      refine OwnW.iconst (pc' := 335) (v := (1 : Int32)) at_334 rfl rfl ?_
      refine OwnW.goto (pc' := 339) at_335 (by decide) (by decide) ?_
      refine OwnW.istore (pc' := 341) (L' := #[.val (.long a0_), .second, .val (.long b0_), .second, .val (.long c0_), .second, .val (.long d0_), .second, .val (.int sel), .val (.int pick), .val (.int (4 : Int32)), .val (.long a0_), .second, .val (.long b), .second, .val (.long c), .second, .val (.long d), .second, .val (.ref ad1), .val (.ref ad57), .val (.int (1 : Int32)), .val (.long (f1 (f1 (f1 a0_ b) c) d)), .second, .val (.int fi), .val (.int kp), .val (.int ex), .val (.int (f2_4_2 ad57 kc57 a0_ b c d)), .val (.int (1 : Int32))]) at_339 rfl rfl ?_
      refine OwnW.iload (pc' := 343) at_341 rfl rfl ?_
      refine OwnW.iconst (pc' := 344) (v := (2 : Int32)) at_343 rfl rfl ?_
      refine OwnW.icmpN (pc' := 347) at_344 (tlt (by decide)).2.2.2 rfl ?_
      refine OwnW.iload (pc' := 349) at_347 rfl rfl ?_
      refine OwnW.ifcN (pc' := 352) at_349 ((if0 _ _).trans (feq (by decide)).1) rfl ?_
      refine OwnW.aload (pc' := 354) at_352 rfl (rfl) rfl ?_
      refine OwnW.iconst (pc' := 355) (v := (2 : Int32)) at_354 rfl rfl ?_
      obtain ⟨cl80, Ar80, qk80, Sz80, Mn80, Hv80, Gf80⟩ := id V64
      refine OwnW.laload (pc' := 356) (v := (.long c)) at_355 Ar80 (inb_of Sz80 ⟨by decide, by decide⟩) (Hv80.at (inb_of Sz80 ⟨by decide, by decide⟩) rfl) rfl ?_
      refine OwnW.lload (pc' := 358) at_356 rfl rfl ?_
      refine OwnW.lcmp (pc' := 359) at_358 rfl ?_
      refine OwnW.ifcN (pc' := 362) at_359 ((if0 _ _).trans (teq ((lw_eq _ _).mpr rfl)).2) rfl ?_
      refine OwnW.iconst (pc' := 363) (v := (1 : Int32)) at_362 rfl rfl ?_
      refine OwnW.goto (pc' := 367) at_363 (by decide) (by decide) ?_
      refine OwnW.istore (pc' := 369) (L' := #[.val (.long a0_), .second, .val (.long b0_), .second, .val (.long c0_), .second, .val (.long d0_), .second, .val (.int sel), .val (.int pick), .val (.int (4 : Int32)), .val (.long a0_), .second, .val (.long b), .second, .val (.long c), .second, .val (.long d), .second, .val (.ref ad1), .val (.ref ad57), .val (.int (1 : Int32)), .val (.long (f1 (f1 (f1 a0_ b) c) d)), .second, .val (.int fi), .val (.int kp), .val (.int ex), .val (.int (f2_4_2 ad57 kc57 a0_ b c d)), .val (.int (1 : Int32))]) at_367 rfl rfl ?_
      refine OwnW.iload (pc' := 371) at_369 rfl rfl ?_
      refine OwnW.iconst (pc' := 372) (v := (3 : Int32)) at_371 rfl rfl ?_
      refine OwnW.icmpN (pc' := 375) at_372 (tlt (by decide)).2.2.2 rfl ?_
      refine OwnW.iload (pc' := 377) at_375 rfl rfl ?_
      refine OwnW.ifcN (pc' := 380) at_377 ((if0 _ _).trans (feq (by decide)).1) rfl ?_
      refine OwnW.aload (pc' := 382) at_380 rfl (rfl) rfl ?_
      refine OwnW.iconst (pc' := 383) (v := (3 : Int32)) at_382 rfl rfl ?_
      obtain ⟨cl81, Ar81, qk81, Sz81, Mn81, Hv81, Gf81⟩ := id V64
      refine OwnW.laload (pc' := 384) (v := (.long d)) at_383 Ar81 (inb_of Sz81 ⟨by decide, by decide⟩) (Hv81.at (inb_of Sz81 ⟨by decide, by decide⟩) rfl) rfl ?_
      refine OwnW.lload (pc' := 386) at_384 rfl rfl ?_
      refine OwnW.lcmp (pc' := 387) at_386 rfl ?_
      refine OwnW.ifcN (pc' := 390) at_387 ((if0 _ _).trans (teq ((lw_eq _ _).mpr rfl)).2) rfl ?_
      refine OwnW.iconst (pc' := 391) (v := (1 : Int32)) at_390 rfl rfl ?_
      refine OwnW.goto (pc' := 395) at_391 (by decide) (by decide) ?_
      refine OwnW.istore (pc' := 397) (L' := #[.val (.long a0_), .second, .val (.long b0_), .second, .val (.long c0_), .second, .val (.long d0_), .second, .val (.int sel), .val (.int pick), .val (.int (4 : Int32)), .val (.long a0_), .second, .val (.long b), .second, .val (.long c), .second, .val (.long d), .second, .val (.ref ad1), .val (.ref ad57), .val (.int (1 : Int32)), .val (.long (f1 (f1 (f1 a0_ b) c) d)), .second, .val (.int fi), .val (.int kp), .val (.int ex), .val (.int (f2_4_2 ad57 kc57 a0_ b c d)), .val (.int (1 : Int32))]) at_395 rfl rfl ?_
      refine OwnW.iload (pc' := 399) at_397 rfl rfl ?_
      refine OwnW.iload (pc' := 401) at_399 rfl rfl ?_
      by_cases hc401 : (f2_4_2 ad57 kc57 a0_ b c d) = ex
      ·
        refine OwnW.icmpN (pc' := 404) at_401 (teq hc401).2 rfl ?_
        refine OwnW.iload (pc' := 406) at_404 rfl rfl ?_
        refine OwnW.ifcN (pc' := 409) at_406 ((if0 _ _).trans (feq (by decide)).1) rfl ?_
        refine OwnW.iconst (pc' := 410) (v := (1 : Int32)) at_409 rfl rfl ?_
        refine OwnW.goto (pc' := 414) at_410 (by decide) (by decide) ?_
        exact OwnW.retN (t := .boolean) at_414 rfl (by simp) rfl (by decide) (by decide) (rfl)
      ·
        refine OwnW.icmpY (pc' := 413) at_401 (feq hc401).2 (by decide) (by decide) ?_
        refine OwnW.iconst (pc' := 414) (v := (0 : Int32)) at_413 rfl rfl ?_
        exact OwnW.retN (t := .boolean) at_414 rfl (by simp) rfl (by decide) (by decide) (absurd (own_law4_2 (d := d) hfi hkp hex) hc401)
    ·
      show GoB0 l Z n0 OwnW.One1 h64 2 8 156 #[.val (.long a0_), .second, .val (.long b0_), .second, .val (.long c0_), .second, .val (.long d0_), .second, .val (.int sel), .val (.int pick), .val (.int (4 : Int32)), .val (.long a0_), .second, .val (.long b), .second, .val (.long c), .second, .val (.long d), .second, .val (.ref ad1), .val (.ref ad57), .val (.int (2 : Int32)), .unset, .unset, .unset, .unset, .unset, .unset, .unset] []
      refine OwnW.lload (pc' := 158) at_156 rfl rfl ?_
      refine OwnW.lstore (pc' := 160) (L' := #[.val (.long a0_), .second, .val (.long b0_), .second, .val (.long c0_), .second, .val (.long d0_), .second, .val (.int sel), .val (.int pick), .val (.int (4 : Int32)), .val (.long a0_), .second, .val (.long b), .second, .val (.long c), .second, .val (.long d), .second, .val (.ref ad1), .val (.ref ad57), .val (.int (2 : Int32)), .val (.long a0_), .second, .unset, .unset, .unset, .unset, .unset]) at_158 rfl rfl ?_
      refine OwnW.iload (pc' := 162) at_160 rfl rfl ?_
      refine OwnW.iconst (pc' := 163) (v := (1 : Int32)) at_162 rfl rfl ?_
      refine OwnW.icmpN (pc' := 166) at_163 (tlt (by decide)).2.2.2 rfl ?_
      refine OwnW.lload (pc' := 168) at_166 rfl rfl ?_
      refine OwnW.lload (pc' := 170) at_168 rfl rfl ?_
      refine OwnW.callS0 (a0 := a0) (pc' := 173) (W := 0) (k' := 2) (n' := 8) (argsL := [(.long a0_), (.long b)]) (rest := []) (St' := [(.long (f1 a0_ b))]) at_170 (hw _ (List.mem_of_getElem? (i := 2) rfl)) (hw _ (List.mem_of_getElem? (i := 3) rfl)) (hw _ (List.mem_of_getElem? (i := 4) rfl)) (hw _ (List.mem_of_getElem? (i := 5) rfl)) (by decide) (rm1 l Z a0 hw a0_ b h64 n0) (by decide) (by decide) rfl rfl (by decide) (by decide) rfl pd_28JJ29J rfl rfl rfl (Nat.le_of_ble_eq_true rfl) rfl rfl ?_
      refine OwnW.lstore (pc' := 175) (L' := #[.val (.long a0_), .second, .val (.long b0_), .second, .val (.long c0_), .second, .val (.long d0_), .second, .val (.int sel), .val (.int pick), .val (.int (4 : Int32)), .val (.long a0_), .second, .val (.long b), .second, .val (.long c), .second, .val (.long d), .second, .val (.ref ad1), .val (.ref ad57), .val (.int (2 : Int32)), .val (.long (f1 a0_ b)), .second, .unset, .unset, .unset, .unset, .unset]) at_173 rfl rfl ?_
      refine OwnW.iload (pc' := 177) at_175 rfl rfl ?_
      refine OwnW.iconst (pc' := 178) (v := (2 : Int32)) at_177 rfl rfl ?_
      refine OwnW.icmpN (pc' := 181) at_178 (tlt (by decide)).2.2.2 rfl ?_
      refine OwnW.lload (pc' := 183) at_181 rfl rfl ?_
      refine OwnW.lload (pc' := 185) at_183 rfl rfl ?_
      refine OwnW.callS0 (a0 := a0) (pc' := 188) (W := 0) (k' := 2) (n' := 8) (argsL := [(.long (f1 a0_ b)), (.long c)]) (rest := []) (St' := [(.long (f1 (f1 a0_ b) c))]) at_185 (hw _ (List.mem_of_getElem? (i := 2) rfl)) (hw _ (List.mem_of_getElem? (i := 3) rfl)) (hw _ (List.mem_of_getElem? (i := 4) rfl)) (hw _ (List.mem_of_getElem? (i := 5) rfl)) (by decide) (rm1 l Z a0 hw (f1 a0_ b) c h64 n0) (by decide) (by decide) rfl rfl (by decide) (by decide) rfl pd_28JJ29J rfl rfl rfl (Nat.le_of_ble_eq_true rfl) rfl rfl ?_
      refine OwnW.lstore (pc' := 190) (L' := #[.val (.long a0_), .second, .val (.long b0_), .second, .val (.long c0_), .second, .val (.long d0_), .second, .val (.int sel), .val (.int pick), .val (.int (4 : Int32)), .val (.long a0_), .second, .val (.long b), .second, .val (.long c), .second, .val (.long d), .second, .val (.ref ad1), .val (.ref ad57), .val (.int (2 : Int32)), .val (.long (f1 (f1 a0_ b) c)), .second, .unset, .unset, .unset, .unset, .unset]) at_188 rfl rfl ?_
      refine OwnW.iload (pc' := 192) at_190 rfl rfl ?_
      refine OwnW.iconst (pc' := 193) (v := (3 : Int32)) at_192 rfl rfl ?_
      refine OwnW.icmpN (pc' := 196) at_193 (tlt (by decide)).2.2.2 rfl ?_
      refine OwnW.lload (pc' := 198) at_196 rfl rfl ?_
      refine OwnW.lload (pc' := 200) at_198 rfl rfl ?_
      refine OwnW.callS0 (a0 := a0) (pc' := 203) (W := 0) (k' := 2) (n' := 8) (argsL := [(.long (f1 (f1 a0_ b) c)), (.long d)]) (rest := []) (St' := [(.long (f1 (f1 (f1 a0_ b) c) d))]) at_200 (hw _ (List.mem_of_getElem? (i := 2) rfl)) (hw _ (List.mem_of_getElem? (i := 3) rfl)) (hw _ (List.mem_of_getElem? (i := 4) rfl)) (hw _ (List.mem_of_getElem? (i := 5) rfl)) (by decide) (rm1 l Z a0 hw (f1 (f1 a0_ b) c) d h64 n0) (by decide) (by decide) rfl rfl (by decide) (by decide) rfl pd_28JJ29J rfl rfl rfl (Nat.le_of_ble_eq_true rfl) rfl rfl ?_
      refine OwnW.lstore (pc' := 205) (L' := #[.val (.long a0_), .second, .val (.long b0_), .second, .val (.long c0_), .second, .val (.long d0_), .second, .val (.int sel), .val (.int pick), .val (.int (4 : Int32)), .val (.long a0_), .second, .val (.long b), .second, .val (.long c), .second, .val (.long d), .second, .val (.ref ad1), .val (.ref ad57), .val (.int (2 : Int32)), .val (.long (f1 (f1 (f1 a0_ b) c) d)), .second, .unset, .unset, .unset, .unset, .unset]) at_203 rfl rfl ?_
      refine OwnW.lload (pc' := 207) at_205 rfl rfl ?_
      refine OwnW.lload (pc' := 209) at_207 rfl rfl ?_
      refine OwnW.lcmp (pc' := 210) at_209 rfl ?_
      suffices J210_250 : ∀ (fi : Int32), fi = (if (lcmpW a0_ (f1 (f1 (f1 a0_ b) c) d)) = (0 : Int32) then (0 : Int32) else (if (lcmpW b (f1 (f1 (f1 a0_ b) c) d)) = (0 : Int32) then (1 : Int32) else (if (lcmpW c (f1 (f1 (f1 a0_ b) c) d)) = (0 : Int32) then (2 : Int32) else (3 : Int32)))) → GoB0 l Z n0 OwnW.One1 h64 2 8 250 #[.val (.long a0_), .second, .val (.long b0_), .second, .val (.long c0_), .second, .val (.long d0_), .second, .val (.int sel), .val (.int pick), .val (.int (4 : Int32)), .val (.long a0_), .second, .val (.long b), .second, .val (.long c), .second, .val (.long d), .second, .val (.ref ad1), .val (.ref ad57), .val (.int (2 : Int32)), .val (.long (f1 (f1 (f1 a0_ b) c) d)), .second, .val (.int fi), .unset, .unset, .unset, .unset] [] by
        by_cases hc210 : (lcmpW a0_ (f1 (f1 (f1 a0_ b) c) d)) = (0 : Int32)
        ·
          refine OwnW.ifcN (pc' := 213) at_210 ((if0 _ _).trans (teq hc210).2) rfl ?_
          refine OwnW.iconst (pc' := 214) (v := (0 : Int32)) at_213 rfl rfl ?_
          refine OwnW.istore (pc' := 216) (L' := #[.val (.long a0_), .second, .val (.long b0_), .second, .val (.long c0_), .second, .val (.long d0_), .second, .val (.int sel), .val (.int pick), .val (.int (4 : Int32)), .val (.long a0_), .second, .val (.long b), .second, .val (.long c), .second, .val (.long d), .second, .val (.ref ad1), .val (.ref ad57), .val (.int (2 : Int32)), .val (.long (f1 (f1 (f1 a0_ b) c) d)), .second, .val (.int (0 : Int32)), .unset, .unset, .unset, .unset]) at_214 rfl rfl ?_
          refine OwnW.goto (pc' := 250) at_216 (by decide) (by decide) ?_
          exact J210_250 _ (by first | simp only [if_pos hc210] | rfl)
        ·
          refine OwnW.ifcY (pc' := 219) at_210 ((if0 _ _).trans (feq hc210).2) (by decide) (by decide) ?_
          refine OwnW.lload (pc' := 221) at_219 rfl rfl ?_
          refine OwnW.lload (pc' := 223) at_221 rfl rfl ?_
          refine OwnW.lcmp (pc' := 224) at_223 rfl ?_
          by_cases hc224 : (lcmpW b (f1 (f1 (f1 a0_ b) c) d)) = (0 : Int32)
          ·
            refine OwnW.ifcN (pc' := 227) at_224 ((if0 _ _).trans (teq hc224).2) rfl ?_
            refine OwnW.iconst (pc' := 228) (v := (1 : Int32)) at_227 rfl rfl ?_
            refine OwnW.istore (pc' := 230) (L' := #[.val (.long a0_), .second, .val (.long b0_), .second, .val (.long c0_), .second, .val (.long d0_), .second, .val (.int sel), .val (.int pick), .val (.int (4 : Int32)), .val (.long a0_), .second, .val (.long b), .second, .val (.long c), .second, .val (.long d), .second, .val (.ref ad1), .val (.ref ad57), .val (.int (2 : Int32)), .val (.long (f1 (f1 (f1 a0_ b) c) d)), .second, .val (.int (1 : Int32)), .unset, .unset, .unset, .unset]) at_228 rfl rfl ?_
            refine OwnW.goto (pc' := 250) at_230 (by decide) (by decide) ?_
            exact J210_250 _ (by first | simp only [if_neg hc210, if_pos hc224] | rfl)
          ·
            refine OwnW.ifcY (pc' := 233) at_224 ((if0 _ _).trans (feq hc224).2) (by decide) (by decide) ?_
            refine OwnW.lload (pc' := 235) at_233 rfl rfl ?_
            refine OwnW.lload (pc' := 237) at_235 rfl rfl ?_
            refine OwnW.lcmp (pc' := 238) at_237 rfl ?_
            by_cases hc238 : (lcmpW c (f1 (f1 (f1 a0_ b) c) d)) = (0 : Int32)
            ·
              refine OwnW.ifcN (pc' := 241) at_238 ((if0 _ _).trans (teq hc238).2) rfl ?_
              refine OwnW.iconst (pc' := 242) (v := (2 : Int32)) at_241 rfl rfl ?_
              refine OwnW.istore (pc' := 244) (L' := #[.val (.long a0_), .second, .val (.long b0_), .second, .val (.long c0_), .second, .val (.long d0_), .second, .val (.int sel), .val (.int pick), .val (.int (4 : Int32)), .val (.long a0_), .second, .val (.long b), .second, .val (.long c), .second, .val (.long d), .second, .val (.ref ad1), .val (.ref ad57), .val (.int (2 : Int32)), .val (.long (f1 (f1 (f1 a0_ b) c) d)), .second, .val (.int (2 : Int32)), .unset, .unset, .unset, .unset]) at_242 rfl rfl ?_
              refine OwnW.goto (pc' := 250) at_244 (by decide) (by decide) ?_
              exact J210_250 _ (by first | simp only [if_neg hc210, if_neg hc224, if_pos hc238] | rfl)
            ·
              refine OwnW.ifcY (pc' := 247) at_238 ((if0 _ _).trans (feq hc238).2) (by decide) (by decide) ?_
              refine OwnW.iconst (pc' := 248) (v := (3 : Int32)) at_247 rfl rfl ?_
              refine OwnW.istore (pc' := 250) (L' := #[.val (.long a0_), .second, .val (.long b0_), .second, .val (.long c0_), .second, .val (.long d0_), .second, .val (.int sel), .val (.int pick), .val (.int (4 : Int32)), .val (.long a0_), .second, .val (.long b), .second, .val (.long c), .second, .val (.long d), .second, .val (.ref ad1), .val (.ref ad57), .val (.int (2 : Int32)), .val (.long (f1 (f1 (f1 a0_ b) c) d)), .second, .val (.int (3 : Int32)), .unset, .unset, .unset, .unset]) at_248 rfl rfl ?_
              exact J210_250 _ (by first | simp only [if_neg hc210, if_neg hc224, if_neg hc238] | rfl)
      intro fi hfi
      refine OwnW.iload (pc' := 252) at_250 rfl rfl ?_
      refine OwnW.ifcN (pc' := 255) at_252 ((if0 _ _).trans (flt (by decide)).1) rfl ?_
      refine OwnW.aload (pc' := 257) at_255 rfl (rfl) rfl ?_
      refine OwnW.iload (pc' := 259) at_257 rfl rfl ?_
      have F82 := (((((V8.ext E57).other W58 (Nat.ne_of_lt lt_ad1_ad57)).other W60 (Nat.ne_of_lt lt_ad1_ad57)).other W62 (Nat.ne_of_lt lt_ad1_ad57)).other W64 (Nat.ne_of_lt lt_ad1_ad57))
      obtain ⟨cl83, Ar83, qk83, Sz83, Mn83, Hv83, Gf83⟩ := id F82
      refine OwnW.laload (pc' := 260) (v := (.long c)) at_259 Ar83 (inb_of Sz83 ⟨by decide, by decide⟩) (Hv83.at (inb_of Sz83 ⟨by decide, by decide⟩) rfl) rfl ?_
      refine OwnW.lload (pc' := 262) at_260 rfl rfl ?_
      refine OwnW.lcmp (pc' := 263) at_262 rfl ?_
      suffices J263_271 : ∀ (kp : Int32), kp = (if (lcmpW c (f1 (f1 (f1 a0_ b) c) d)) = (0 : Int32) then (1 : Int32) else (0 : Int32)) → GoB0 l Z n0 OwnW.One1 h64 2 8 271 #[.val (.long a0_), .second, .val (.long b0_), .second, .val (.long c0_), .second, .val (.long d0_), .second, .val (.int sel), .val (.int pick), .val (.int (4 : Int32)), .val (.long a0_), .second, .val (.long b), .second, .val (.long c), .second, .val (.long d), .second, .val (.ref ad1), .val (.ref ad57), .val (.int (2 : Int32)), .val (.long (f1 (f1 (f1 a0_ b) c) d)), .second, .val (.int fi), .unset, .unset, .unset, .unset] [(.int kp)] by
        by_cases hc263 : (lcmpW c (f1 (f1 (f1 a0_ b) c) d)) = (0 : Int32)
        ·
          refine OwnW.ifcN (pc' := 266) at_263 ((if0 _ _).trans (teq hc263).2) rfl ?_
          refine OwnW.iconst (pc' := 267) (v := (1 : Int32)) at_266 rfl rfl ?_
          refine OwnW.goto (pc' := 271) at_267 (by decide) (by decide) ?_
          exact J263_271 _ (by first | simp only [if_pos hc263] | rfl)
        ·
          refine OwnW.ifcY (pc' := 270) at_263 ((if0 _ _).trans (feq hc263).2) (by decide) (by decide) ?_
          refine OwnW.iconst (pc' := 271) (v := (0 : Int32)) at_270 rfl rfl ?_
          exact J263_271 _ (by first | simp only [if_neg hc263] | rfl)
      intro kp hkp
      refine OwnW.istore (pc' := 273) (L' := #[.val (.long a0_), .second, .val (.long b0_), .second, .val (.long c0_), .second, .val (.long d0_), .second, .val (.int sel), .val (.int pick), .val (.int (4 : Int32)), .val (.long a0_), .second, .val (.long b), .second, .val (.long c), .second, .val (.long d), .second, .val (.ref ad1), .val (.ref ad57), .val (.int (2 : Int32)), .val (.long (f1 (f1 (f1 a0_ b) c) d)), .second, .val (.int fi), .val (.int kp), .unset, .unset, .unset]) at_271 rfl rfl ?_
      refine OwnW.iload (pc' := 275) at_273 rfl rfl ?_
      suffices J275_285 : ∀ (ex : Int32), ex = (if kp = (0 : Int32) then fi else (2 : Int32)) → GoB0 l Z n0 OwnW.One1 h64 2 8 285 #[.val (.long a0_), .second, .val (.long b0_), .second, .val (.long c0_), .second, .val (.long d0_), .second, .val (.int sel), .val (.int pick), .val (.int (4 : Int32)), .val (.long a0_), .second, .val (.long b), .second, .val (.long c), .second, .val (.long d), .second, .val (.ref ad1), .val (.ref ad57), .val (.int (2 : Int32)), .val (.long (f1 (f1 (f1 a0_ b) c) d)), .second, .val (.int fi), .val (.int kp), .unset, .unset, .unset] [(.int ex)] by
        by_cases hc275 : kp = (0 : Int32)
        ·
          refine OwnW.ifcY (pc' := 283) at_275 ((if0 _ _).trans (teq hc275).1) (by decide) (by decide) ?_
          refine OwnW.iload (pc' := 285) at_283 rfl rfl ?_
          exact J275_285 _ (by first | simp only [if_pos hc275] | rfl)
        ·
          refine OwnW.ifcN (pc' := 278) at_275 ((if0 _ _).trans (feq hc275).1) rfl ?_
          refine OwnW.iload (pc' := 280) at_278 rfl rfl ?_
          refine OwnW.goto (pc' := 285) at_280 (by decide) (by decide) ?_
          exact J275_285 _ (by first | simp only [if_neg hc275] | rfl)
      intro ex hex
      refine OwnW.istore (pc' := 287) (L' := #[.val (.long a0_), .second, .val (.long b0_), .second, .val (.long c0_), .second, .val (.long d0_), .second, .val (.int sel), .val (.int pick), .val (.int (4 : Int32)), .val (.long a0_), .second, .val (.long b), .second, .val (.long c), .second, .val (.long d), .second, .val (.ref ad1), .val (.ref ad57), .val (.int (2 : Int32)), .val (.long (f1 (f1 (f1 a0_ b) c) d)), .second, .val (.int fi), .val (.int kp), .val (.int ex), .unset, .unset]) at_285 rfl rfl ?_
      refine OwnW.aload (pc' := 289) at_287 rfl (rfl) rfl ?_
      refine OwnW.iload (pc' := 291) at_289 rfl rfl ?_
      refine OwnW.callS0 (a0 := a0) (pc' := 294) (W := 0) (k' := 2) (n' := 8) (argsL := [(.ref ad57), (.int (2 : Int32))]) (rest := []) (St' := [(.int (f2_4_3 ad57 kc57 a0_ b c d))]) at_291 (hw _ (List.mem_of_getElem? (i := 6) rfl)) (hw _ (List.mem_of_getElem? (i := 7) rfl)) (hw _ (List.mem_of_getElem? (i := 8) rfl)) (hw _ (List.mem_of_getElem? (i := 9) rfl)) (by decide) (rm2_4_3 l Z a0 hw ad57 kc57 a0_ b c d h64 n0 V64) (by decide) (by decide) rfl rfl (by decide) (by decide) rfl pd_285bJI29I rfl rfl rfl (Nat.le_of_ble_eq_true rfl) rfl rfl ?_
      refine OwnW.istore (pc' := 296) (L' := #[.val (.long a0_), .second, .val (.long b0_), .second, .val (.long c0_), .second, .val (.long d0_), .second, .val (.int sel), .val (.int pick), .val (.int (4 : Int32)), .val (.long a0_), .second, .val (.long b), .second, .val (.long c), .second, .val (.long d), .second, .val (.ref ad1), .val (.ref ad57), .val (.int (2 : Int32)), .val (.long (f1 (f1 (f1 a0_ b) c) d)), .second, .val (.int fi), .val (.int kp), .val (.int ex), .val (.int (f2_4_3 ad57 kc57 a0_ b c d)), .unset]) at_294 rfl rfl ?_
      refine OwnW.aload (pc' := 298) at_296 rfl (rfl) rfl ?_
      refine OwnW.iconst (pc' := 299) (v := (0 : Int32)) at_298 rfl rfl ?_
      obtain ⟨cl84, Ar84, qk84, Sz84, Mn84, Hv84, Gf84⟩ := id V64
      refine OwnW.laload (pc' := 300) (v := (.long a0_)) at_299 Ar84 (inb_of Sz84 ⟨by decide, by decide⟩) (Hv84.at (inb_of Sz84 ⟨by decide, by decide⟩) rfl) rfl ?_
      refine OwnW.lload (pc' := 302) at_300 rfl rfl ?_
      refine OwnW.lcmp (pc' := 303) at_302 rfl ?_
      refine OwnW.ifcN (pc' := 306) at_303 ((if0 _ _).trans (teq ((lw_eq _ _).mpr rfl)).2) rfl ?_
      refine OwnW.iconst (pc' := 307) (v := (1 : Int32)) at_306 rfl rfl ?_
      refine OwnW.goto (pc' := 311) at_307 (by decide) (by decide) ?_
      refine OwnW.istore (pc' := 313) (L' := #[.val (.long a0_), .second, .val (.long b0_), .second, .val (.long c0_), .second, .val (.long d0_), .second, .val (.int sel), .val (.int pick), .val (.int (4 : Int32)), .val (.long a0_), .second, .val (.long b), .second, .val (.long c), .second, .val (.long d), .second, .val (.ref ad1), .val (.ref ad57), .val (.int (2 : Int32)), .val (.long (f1 (f1 (f1 a0_ b) c) d)), .second, .val (.int fi), .val (.int kp), .val (.int ex), .val (.int (f2_4_3 ad57 kc57 a0_ b c d)), .val (.int (1 : Int32))]) at_311 rfl rfl ?_
      refine OwnW.iload (pc' := 315) at_313 rfl rfl ?_
      refine OwnW.iconst (pc' := 316) (v := (1 : Int32)) at_315 rfl rfl ?_
      refine OwnW.icmpN (pc' := 319) at_316 (tlt (by decide)).2.2.2 rfl ?_
      refine OwnW.iload (pc' := 321) at_319 rfl rfl ?_
      refine OwnW.ifcN (pc' := 324) at_321 ((if0 _ _).trans (feq (by decide)).1) rfl ?_
      refine OwnW.aload (pc' := 326) at_324 rfl (rfl) rfl ?_
      refine OwnW.iconst (pc' := 327) (v := (1 : Int32)) at_326 rfl rfl ?_
      obtain ⟨cl85, Ar85, qk85, Sz85, Mn85, Hv85, Gf85⟩ := id V64
      refine OwnW.laload (pc' := 328) (v := (.long b)) at_327 Ar85 (inb_of Sz85 ⟨by decide, by decide⟩) (Hv85.at (inb_of Sz85 ⟨by decide, by decide⟩) rfl) rfl ?_
      refine OwnW.lload (pc' := 330) at_328 rfl rfl ?_
      refine OwnW.lcmp (pc' := 331) at_330 rfl ?_
      refine OwnW.ifcN (pc' := 334) at_331 ((if0 _ _).trans (teq ((lw_eq _ _).mpr rfl)).2) rfl ?_
      refine OwnW.iconst (pc' := 335) (v := (1 : Int32)) at_334 rfl rfl ?_
      refine OwnW.goto (pc' := 339) at_335 (by decide) (by decide) ?_
      refine OwnW.istore (pc' := 341) (L' := #[.val (.long a0_), .second, .val (.long b0_), .second, .val (.long c0_), .second, .val (.long d0_), .second, .val (.int sel), .val (.int pick), .val (.int (4 : Int32)), .val (.long a0_), .second, .val (.long b), .second, .val (.long c), .second, .val (.long d), .second, .val (.ref ad1), .val (.ref ad57), .val (.int (2 : Int32)), .val (.long (f1 (f1 (f1 a0_ b) c) d)), .second, .val (.int fi), .val (.int kp), .val (.int ex), .val (.int (f2_4_3 ad57 kc57 a0_ b c d)), .val (.int (1 : Int32))]) at_339 rfl rfl ?_
      refine OwnW.iload (pc' := 343) at_341 rfl rfl ?_
      refine OwnW.iconst (pc' := 344) (v := (2 : Int32)) at_343 rfl rfl ?_
      refine OwnW.icmpN (pc' := 347) at_344 (tlt (by decide)).2.2.2 rfl ?_
      refine OwnW.iload (pc' := 349) at_347 rfl rfl ?_
      refine OwnW.ifcN (pc' := 352) at_349 ((if0 _ _).trans (feq (by decide)).1) rfl ?_
      refine OwnW.aload (pc' := 354) at_352 rfl (rfl) rfl ?_
      refine OwnW.iconst (pc' := 355) (v := (2 : Int32)) at_354 rfl rfl ?_
      obtain ⟨cl86, Ar86, qk86, Sz86, Mn86, Hv86, Gf86⟩ := id V64
      refine OwnW.laload (pc' := 356) (v := (.long c)) at_355 Ar86 (inb_of Sz86 ⟨by decide, by decide⟩) (Hv86.at (inb_of Sz86 ⟨by decide, by decide⟩) rfl) rfl ?_
      refine OwnW.lload (pc' := 358) at_356 rfl rfl ?_
      refine OwnW.lcmp (pc' := 359) at_358 rfl ?_
      refine OwnW.ifcN (pc' := 362) at_359 ((if0 _ _).trans (teq ((lw_eq _ _).mpr rfl)).2) rfl ?_
      refine OwnW.iconst (pc' := 363) (v := (1 : Int32)) at_362 rfl rfl ?_
      refine OwnW.goto (pc' := 367) at_363 (by decide) (by decide) ?_
      refine OwnW.istore (pc' := 369) (L' := #[.val (.long a0_), .second, .val (.long b0_), .second, .val (.long c0_), .second, .val (.long d0_), .second, .val (.int sel), .val (.int pick), .val (.int (4 : Int32)), .val (.long a0_), .second, .val (.long b), .second, .val (.long c), .second, .val (.long d), .second, .val (.ref ad1), .val (.ref ad57), .val (.int (2 : Int32)), .val (.long (f1 (f1 (f1 a0_ b) c) d)), .second, .val (.int fi), .val (.int kp), .val (.int ex), .val (.int (f2_4_3 ad57 kc57 a0_ b c d)), .val (.int (1 : Int32))]) at_367 rfl rfl ?_
      refine OwnW.iload (pc' := 371) at_369 rfl rfl ?_
      refine OwnW.iconst (pc' := 372) (v := (3 : Int32)) at_371 rfl rfl ?_
      refine OwnW.icmpN (pc' := 375) at_372 (tlt (by decide)).2.2.2 rfl ?_
      refine OwnW.iload (pc' := 377) at_375 rfl rfl ?_
      refine OwnW.ifcN (pc' := 380) at_377 ((if0 _ _).trans (feq (by decide)).1) rfl ?_
      refine OwnW.aload (pc' := 382) at_380 rfl (rfl) rfl ?_
      refine OwnW.iconst (pc' := 383) (v := (3 : Int32)) at_382 rfl rfl ?_
      obtain ⟨cl87, Ar87, qk87, Sz87, Mn87, Hv87, Gf87⟩ := id V64
      refine OwnW.laload (pc' := 384) (v := (.long d)) at_383 Ar87 (inb_of Sz87 ⟨by decide, by decide⟩) (Hv87.at (inb_of Sz87 ⟨by decide, by decide⟩) rfl) rfl ?_
      refine OwnW.lload (pc' := 386) at_384 rfl rfl ?_
      refine OwnW.lcmp (pc' := 387) at_386 rfl ?_
      refine OwnW.ifcN (pc' := 390) at_387 ((if0 _ _).trans (teq ((lw_eq _ _).mpr rfl)).2) rfl ?_
      refine OwnW.iconst (pc' := 391) (v := (1 : Int32)) at_390 rfl rfl ?_
      refine OwnW.goto (pc' := 395) at_391 (by decide) (by decide) ?_
      refine OwnW.istore (pc' := 397) (L' := #[.val (.long a0_), .second, .val (.long b0_), .second, .val (.long c0_), .second, .val (.long d0_), .second, .val (.int sel), .val (.int pick), .val (.int (4 : Int32)), .val (.long a0_), .second, .val (.long b), .second, .val (.long c), .second, .val (.long d), .second, .val (.ref ad1), .val (.ref ad57), .val (.int (2 : Int32)), .val (.long (f1 (f1 (f1 a0_ b) c) d)), .second, .val (.int fi), .val (.int kp), .val (.int ex), .val (.int (f2_4_3 ad57 kc57 a0_ b c d)), .val (.int (1 : Int32))]) at_395 rfl rfl ?_
      refine OwnW.iload (pc' := 399) at_397 rfl rfl ?_
      refine OwnW.iload (pc' := 401) at_399 rfl rfl ?_
      by_cases hc401 : (f2_4_3 ad57 kc57 a0_ b c d) = ex
      ·
        refine OwnW.icmpN (pc' := 404) at_401 (teq hc401).2 rfl ?_
        refine OwnW.iload (pc' := 406) at_404 rfl rfl ?_
        refine OwnW.ifcN (pc' := 409) at_406 ((if0 _ _).trans (feq (by decide)).1) rfl ?_
        refine OwnW.iconst (pc' := 410) (v := (1 : Int32)) at_409 rfl rfl ?_
        refine OwnW.goto (pc' := 414) at_410 (by decide) (by decide) ?_
        exact OwnW.retN (t := .boolean) at_414 rfl (by simp) rfl (by decide) (by decide) (rfl)
      ·
        refine OwnW.icmpY (pc' := 413) at_401 (feq hc401).2 (by decide) (by decide) ?_
        refine OwnW.iconst (pc' := 414) (v := (0 : Int32)) at_413 rfl rfl ?_
        exact OwnW.retN (t := .boolean) at_414 rfl (by simp) rfl (by decide) (by decide) (absurd (own_law4_3 (d := d) hfi hkp hex) hc401)
    ·
      show GoB0 l Z n0 OwnW.One1 h64 2 8 156 #[.val (.long a0_), .second, .val (.long b0_), .second, .val (.long c0_), .second, .val (.long d0_), .second, .val (.int sel), .val (.int pick), .val (.int (4 : Int32)), .val (.long a0_), .second, .val (.long b), .second, .val (.long c), .second, .val (.long d), .second, .val (.ref ad1), .val (.ref ad57), .val (.int (3 : Int32)), .unset, .unset, .unset, .unset, .unset, .unset, .unset] []
      refine OwnW.lload (pc' := 158) at_156 rfl rfl ?_
      refine OwnW.lstore (pc' := 160) (L' := #[.val (.long a0_), .second, .val (.long b0_), .second, .val (.long c0_), .second, .val (.long d0_), .second, .val (.int sel), .val (.int pick), .val (.int (4 : Int32)), .val (.long a0_), .second, .val (.long b), .second, .val (.long c), .second, .val (.long d), .second, .val (.ref ad1), .val (.ref ad57), .val (.int (3 : Int32)), .val (.long a0_), .second, .unset, .unset, .unset, .unset, .unset]) at_158 rfl rfl ?_
      refine OwnW.iload (pc' := 162) at_160 rfl rfl ?_
      refine OwnW.iconst (pc' := 163) (v := (1 : Int32)) at_162 rfl rfl ?_
      refine OwnW.icmpN (pc' := 166) at_163 (tlt (by decide)).2.2.2 rfl ?_
      refine OwnW.lload (pc' := 168) at_166 rfl rfl ?_
      refine OwnW.lload (pc' := 170) at_168 rfl rfl ?_
      refine OwnW.callS0 (a0 := a0) (pc' := 173) (W := 0) (k' := 2) (n' := 8) (argsL := [(.long a0_), (.long b)]) (rest := []) (St' := [(.long (f1 a0_ b))]) at_170 (hw _ (List.mem_of_getElem? (i := 2) rfl)) (hw _ (List.mem_of_getElem? (i := 3) rfl)) (hw _ (List.mem_of_getElem? (i := 4) rfl)) (hw _ (List.mem_of_getElem? (i := 5) rfl)) (by decide) (rm1 l Z a0 hw a0_ b h64 n0) (by decide) (by decide) rfl rfl (by decide) (by decide) rfl pd_28JJ29J rfl rfl rfl (Nat.le_of_ble_eq_true rfl) rfl rfl ?_
      refine OwnW.lstore (pc' := 175) (L' := #[.val (.long a0_), .second, .val (.long b0_), .second, .val (.long c0_), .second, .val (.long d0_), .second, .val (.int sel), .val (.int pick), .val (.int (4 : Int32)), .val (.long a0_), .second, .val (.long b), .second, .val (.long c), .second, .val (.long d), .second, .val (.ref ad1), .val (.ref ad57), .val (.int (3 : Int32)), .val (.long (f1 a0_ b)), .second, .unset, .unset, .unset, .unset, .unset]) at_173 rfl rfl ?_
      refine OwnW.iload (pc' := 177) at_175 rfl rfl ?_
      refine OwnW.iconst (pc' := 178) (v := (2 : Int32)) at_177 rfl rfl ?_
      refine OwnW.icmpN (pc' := 181) at_178 (tlt (by decide)).2.2.2 rfl ?_
      refine OwnW.lload (pc' := 183) at_181 rfl rfl ?_
      refine OwnW.lload (pc' := 185) at_183 rfl rfl ?_
      refine OwnW.callS0 (a0 := a0) (pc' := 188) (W := 0) (k' := 2) (n' := 8) (argsL := [(.long (f1 a0_ b)), (.long c)]) (rest := []) (St' := [(.long (f1 (f1 a0_ b) c))]) at_185 (hw _ (List.mem_of_getElem? (i := 2) rfl)) (hw _ (List.mem_of_getElem? (i := 3) rfl)) (hw _ (List.mem_of_getElem? (i := 4) rfl)) (hw _ (List.mem_of_getElem? (i := 5) rfl)) (by decide) (rm1 l Z a0 hw (f1 a0_ b) c h64 n0) (by decide) (by decide) rfl rfl (by decide) (by decide) rfl pd_28JJ29J rfl rfl rfl (Nat.le_of_ble_eq_true rfl) rfl rfl ?_
      refine OwnW.lstore (pc' := 190) (L' := #[.val (.long a0_), .second, .val (.long b0_), .second, .val (.long c0_), .second, .val (.long d0_), .second, .val (.int sel), .val (.int pick), .val (.int (4 : Int32)), .val (.long a0_), .second, .val (.long b), .second, .val (.long c), .second, .val (.long d), .second, .val (.ref ad1), .val (.ref ad57), .val (.int (3 : Int32)), .val (.long (f1 (f1 a0_ b) c)), .second, .unset, .unset, .unset, .unset, .unset]) at_188 rfl rfl ?_
      refine OwnW.iload (pc' := 192) at_190 rfl rfl ?_
      refine OwnW.iconst (pc' := 193) (v := (3 : Int32)) at_192 rfl rfl ?_
      refine OwnW.icmpN (pc' := 196) at_193 (tlt (by decide)).2.2.2 rfl ?_
      refine OwnW.lload (pc' := 198) at_196 rfl rfl ?_
      refine OwnW.lload (pc' := 200) at_198 rfl rfl ?_
      refine OwnW.callS0 (a0 := a0) (pc' := 203) (W := 0) (k' := 2) (n' := 8) (argsL := [(.long (f1 (f1 a0_ b) c)), (.long d)]) (rest := []) (St' := [(.long (f1 (f1 (f1 a0_ b) c) d))]) at_200 (hw _ (List.mem_of_getElem? (i := 2) rfl)) (hw _ (List.mem_of_getElem? (i := 3) rfl)) (hw _ (List.mem_of_getElem? (i := 4) rfl)) (hw _ (List.mem_of_getElem? (i := 5) rfl)) (by decide) (rm1 l Z a0 hw (f1 (f1 a0_ b) c) d h64 n0) (by decide) (by decide) rfl rfl (by decide) (by decide) rfl pd_28JJ29J rfl rfl rfl (Nat.le_of_ble_eq_true rfl) rfl rfl ?_
      refine OwnW.lstore (pc' := 205) (L' := #[.val (.long a0_), .second, .val (.long b0_), .second, .val (.long c0_), .second, .val (.long d0_), .second, .val (.int sel), .val (.int pick), .val (.int (4 : Int32)), .val (.long a0_), .second, .val (.long b), .second, .val (.long c), .second, .val (.long d), .second, .val (.ref ad1), .val (.ref ad57), .val (.int (3 : Int32)), .val (.long (f1 (f1 (f1 a0_ b) c) d)), .second, .unset, .unset, .unset, .unset, .unset]) at_203 rfl rfl ?_
      refine OwnW.lload (pc' := 207) at_205 rfl rfl ?_
      refine OwnW.lload (pc' := 209) at_207 rfl rfl ?_
      refine OwnW.lcmp (pc' := 210) at_209 rfl ?_
      suffices J210_250 : ∀ (fi : Int32), fi = (if (lcmpW a0_ (f1 (f1 (f1 a0_ b) c) d)) = (0 : Int32) then (0 : Int32) else (if (lcmpW b (f1 (f1 (f1 a0_ b) c) d)) = (0 : Int32) then (1 : Int32) else (if (lcmpW c (f1 (f1 (f1 a0_ b) c) d)) = (0 : Int32) then (2 : Int32) else (3 : Int32)))) → GoB0 l Z n0 OwnW.One1 h64 2 8 250 #[.val (.long a0_), .second, .val (.long b0_), .second, .val (.long c0_), .second, .val (.long d0_), .second, .val (.int sel), .val (.int pick), .val (.int (4 : Int32)), .val (.long a0_), .second, .val (.long b), .second, .val (.long c), .second, .val (.long d), .second, .val (.ref ad1), .val (.ref ad57), .val (.int (3 : Int32)), .val (.long (f1 (f1 (f1 a0_ b) c) d)), .second, .val (.int fi), .unset, .unset, .unset, .unset] [] by
        by_cases hc210 : (lcmpW a0_ (f1 (f1 (f1 a0_ b) c) d)) = (0 : Int32)
        ·
          refine OwnW.ifcN (pc' := 213) at_210 ((if0 _ _).trans (teq hc210).2) rfl ?_
          refine OwnW.iconst (pc' := 214) (v := (0 : Int32)) at_213 rfl rfl ?_
          refine OwnW.istore (pc' := 216) (L' := #[.val (.long a0_), .second, .val (.long b0_), .second, .val (.long c0_), .second, .val (.long d0_), .second, .val (.int sel), .val (.int pick), .val (.int (4 : Int32)), .val (.long a0_), .second, .val (.long b), .second, .val (.long c), .second, .val (.long d), .second, .val (.ref ad1), .val (.ref ad57), .val (.int (3 : Int32)), .val (.long (f1 (f1 (f1 a0_ b) c) d)), .second, .val (.int (0 : Int32)), .unset, .unset, .unset, .unset]) at_214 rfl rfl ?_
          refine OwnW.goto (pc' := 250) at_216 (by decide) (by decide) ?_
          exact J210_250 _ (by first | simp only [if_pos hc210] | rfl)
        ·
          refine OwnW.ifcY (pc' := 219) at_210 ((if0 _ _).trans (feq hc210).2) (by decide) (by decide) ?_
          refine OwnW.lload (pc' := 221) at_219 rfl rfl ?_
          refine OwnW.lload (pc' := 223) at_221 rfl rfl ?_
          refine OwnW.lcmp (pc' := 224) at_223 rfl ?_
          by_cases hc224 : (lcmpW b (f1 (f1 (f1 a0_ b) c) d)) = (0 : Int32)
          ·
            refine OwnW.ifcN (pc' := 227) at_224 ((if0 _ _).trans (teq hc224).2) rfl ?_
            refine OwnW.iconst (pc' := 228) (v := (1 : Int32)) at_227 rfl rfl ?_
            refine OwnW.istore (pc' := 230) (L' := #[.val (.long a0_), .second, .val (.long b0_), .second, .val (.long c0_), .second, .val (.long d0_), .second, .val (.int sel), .val (.int pick), .val (.int (4 : Int32)), .val (.long a0_), .second, .val (.long b), .second, .val (.long c), .second, .val (.long d), .second, .val (.ref ad1), .val (.ref ad57), .val (.int (3 : Int32)), .val (.long (f1 (f1 (f1 a0_ b) c) d)), .second, .val (.int (1 : Int32)), .unset, .unset, .unset, .unset]) at_228 rfl rfl ?_
            refine OwnW.goto (pc' := 250) at_230 (by decide) (by decide) ?_
            exact J210_250 _ (by first | simp only [if_neg hc210, if_pos hc224] | rfl)
          ·
            refine OwnW.ifcY (pc' := 233) at_224 ((if0 _ _).trans (feq hc224).2) (by decide) (by decide) ?_
            refine OwnW.lload (pc' := 235) at_233 rfl rfl ?_
            refine OwnW.lload (pc' := 237) at_235 rfl rfl ?_
            refine OwnW.lcmp (pc' := 238) at_237 rfl ?_
            by_cases hc238 : (lcmpW c (f1 (f1 (f1 a0_ b) c) d)) = (0 : Int32)
            ·
              refine OwnW.ifcN (pc' := 241) at_238 ((if0 _ _).trans (teq hc238).2) rfl ?_
              refine OwnW.iconst (pc' := 242) (v := (2 : Int32)) at_241 rfl rfl ?_
              refine OwnW.istore (pc' := 244) (L' := #[.val (.long a0_), .second, .val (.long b0_), .second, .val (.long c0_), .second, .val (.long d0_), .second, .val (.int sel), .val (.int pick), .val (.int (4 : Int32)), .val (.long a0_), .second, .val (.long b), .second, .val (.long c), .second, .val (.long d), .second, .val (.ref ad1), .val (.ref ad57), .val (.int (3 : Int32)), .val (.long (f1 (f1 (f1 a0_ b) c) d)), .second, .val (.int (2 : Int32)), .unset, .unset, .unset, .unset]) at_242 rfl rfl ?_
              refine OwnW.goto (pc' := 250) at_244 (by decide) (by decide) ?_
              exact J210_250 _ (by first | simp only [if_neg hc210, if_neg hc224, if_pos hc238] | rfl)
            ·
              refine OwnW.ifcY (pc' := 247) at_238 ((if0 _ _).trans (feq hc238).2) (by decide) (by decide) ?_
              refine OwnW.iconst (pc' := 248) (v := (3 : Int32)) at_247 rfl rfl ?_
              refine OwnW.istore (pc' := 250) (L' := #[.val (.long a0_), .second, .val (.long b0_), .second, .val (.long c0_), .second, .val (.long d0_), .second, .val (.int sel), .val (.int pick), .val (.int (4 : Int32)), .val (.long a0_), .second, .val (.long b), .second, .val (.long c), .second, .val (.long d), .second, .val (.ref ad1), .val (.ref ad57), .val (.int (3 : Int32)), .val (.long (f1 (f1 (f1 a0_ b) c) d)), .second, .val (.int (3 : Int32)), .unset, .unset, .unset, .unset]) at_248 rfl rfl ?_
              exact J210_250 _ (by first | simp only [if_neg hc210, if_neg hc224, if_neg hc238] | rfl)
      intro fi hfi
      refine OwnW.iload (pc' := 252) at_250 rfl rfl ?_
      refine OwnW.ifcN (pc' := 255) at_252 ((if0 _ _).trans (flt (by decide)).1) rfl ?_
      refine OwnW.aload (pc' := 257) at_255 rfl (rfl) rfl ?_
      refine OwnW.iload (pc' := 259) at_257 rfl rfl ?_
      have F88 := (((((V8.ext E57).other W58 (Nat.ne_of_lt lt_ad1_ad57)).other W60 (Nat.ne_of_lt lt_ad1_ad57)).other W62 (Nat.ne_of_lt lt_ad1_ad57)).other W64 (Nat.ne_of_lt lt_ad1_ad57))
      obtain ⟨cl89, Ar89, qk89, Sz89, Mn89, Hv89, Gf89⟩ := id F88
      refine OwnW.laload (pc' := 260) (v := (.long d)) at_259 Ar89 (inb_of Sz89 ⟨by decide, by decide⟩) (Hv89.at (inb_of Sz89 ⟨by decide, by decide⟩) rfl) rfl ?_
      refine OwnW.lload (pc' := 262) at_260 rfl rfl ?_
      refine OwnW.lcmp (pc' := 263) at_262 rfl ?_
      suffices J263_271 : ∀ (kp : Int32), kp = (if (lcmpW d (f1 (f1 (f1 a0_ b) c) d)) = (0 : Int32) then (1 : Int32) else (0 : Int32)) → GoB0 l Z n0 OwnW.One1 h64 2 8 271 #[.val (.long a0_), .second, .val (.long b0_), .second, .val (.long c0_), .second, .val (.long d0_), .second, .val (.int sel), .val (.int pick), .val (.int (4 : Int32)), .val (.long a0_), .second, .val (.long b), .second, .val (.long c), .second, .val (.long d), .second, .val (.ref ad1), .val (.ref ad57), .val (.int (3 : Int32)), .val (.long (f1 (f1 (f1 a0_ b) c) d)), .second, .val (.int fi), .unset, .unset, .unset, .unset] [(.int kp)] by
        by_cases hc263 : (lcmpW d (f1 (f1 (f1 a0_ b) c) d)) = (0 : Int32)
        ·
          refine OwnW.ifcN (pc' := 266) at_263 ((if0 _ _).trans (teq hc263).2) rfl ?_
          refine OwnW.iconst (pc' := 267) (v := (1 : Int32)) at_266 rfl rfl ?_
          refine OwnW.goto (pc' := 271) at_267 (by decide) (by decide) ?_
          exact J263_271 _ (by first | simp only [if_pos hc263] | rfl)
        ·
          refine OwnW.ifcY (pc' := 270) at_263 ((if0 _ _).trans (feq hc263).2) (by decide) (by decide) ?_
          refine OwnW.iconst (pc' := 271) (v := (0 : Int32)) at_270 rfl rfl ?_
          exact J263_271 _ (by first | simp only [if_neg hc263] | rfl)
      intro kp hkp
      refine OwnW.istore (pc' := 273) (L' := #[.val (.long a0_), .second, .val (.long b0_), .second, .val (.long c0_), .second, .val (.long d0_), .second, .val (.int sel), .val (.int pick), .val (.int (4 : Int32)), .val (.long a0_), .second, .val (.long b), .second, .val (.long c), .second, .val (.long d), .second, .val (.ref ad1), .val (.ref ad57), .val (.int (3 : Int32)), .val (.long (f1 (f1 (f1 a0_ b) c) d)), .second, .val (.int fi), .val (.int kp), .unset, .unset, .unset]) at_271 rfl rfl ?_
      refine OwnW.iload (pc' := 275) at_273 rfl rfl ?_
      suffices J275_285 : ∀ (ex : Int32), ex = (if kp = (0 : Int32) then fi else (3 : Int32)) → GoB0 l Z n0 OwnW.One1 h64 2 8 285 #[.val (.long a0_), .second, .val (.long b0_), .second, .val (.long c0_), .second, .val (.long d0_), .second, .val (.int sel), .val (.int pick), .val (.int (4 : Int32)), .val (.long a0_), .second, .val (.long b), .second, .val (.long c), .second, .val (.long d), .second, .val (.ref ad1), .val (.ref ad57), .val (.int (3 : Int32)), .val (.long (f1 (f1 (f1 a0_ b) c) d)), .second, .val (.int fi), .val (.int kp), .unset, .unset, .unset] [(.int ex)] by
        by_cases hc275 : kp = (0 : Int32)
        ·
          refine OwnW.ifcY (pc' := 283) at_275 ((if0 _ _).trans (teq hc275).1) (by decide) (by decide) ?_
          refine OwnW.iload (pc' := 285) at_283 rfl rfl ?_
          exact J275_285 _ (by first | simp only [if_pos hc275] | rfl)
        ·
          refine OwnW.ifcN (pc' := 278) at_275 ((if0 _ _).trans (feq hc275).1) rfl ?_
          refine OwnW.iload (pc' := 280) at_278 rfl rfl ?_
          refine OwnW.goto (pc' := 285) at_280 (by decide) (by decide) ?_
          exact J275_285 _ (by first | simp only [if_neg hc275] | rfl)
      intro ex hex
      refine OwnW.istore (pc' := 287) (L' := #[.val (.long a0_), .second, .val (.long b0_), .second, .val (.long c0_), .second, .val (.long d0_), .second, .val (.int sel), .val (.int pick), .val (.int (4 : Int32)), .val (.long a0_), .second, .val (.long b), .second, .val (.long c), .second, .val (.long d), .second, .val (.ref ad1), .val (.ref ad57), .val (.int (3 : Int32)), .val (.long (f1 (f1 (f1 a0_ b) c) d)), .second, .val (.int fi), .val (.int kp), .val (.int ex), .unset, .unset]) at_285 rfl rfl ?_
      refine OwnW.aload (pc' := 289) at_287 rfl (rfl) rfl ?_
      refine OwnW.iload (pc' := 291) at_289 rfl rfl ?_
      refine OwnW.callS0 (a0 := a0) (pc' := 294) (W := 0) (k' := 2) (n' := 8) (argsL := [(.ref ad57), (.int (3 : Int32))]) (rest := []) (St' := [(.int (f2_4_4 ad57 kc57 a0_ b c d))]) at_291 (hw _ (List.mem_of_getElem? (i := 6) rfl)) (hw _ (List.mem_of_getElem? (i := 7) rfl)) (hw _ (List.mem_of_getElem? (i := 8) rfl)) (hw _ (List.mem_of_getElem? (i := 9) rfl)) (by decide) (rm2_4_4 l Z a0 hw ad57 kc57 a0_ b c d h64 n0 V64) (by decide) (by decide) rfl rfl (by decide) (by decide) rfl pd_285bJI29I rfl rfl rfl (Nat.le_of_ble_eq_true rfl) rfl rfl ?_
      refine OwnW.istore (pc' := 296) (L' := #[.val (.long a0_), .second, .val (.long b0_), .second, .val (.long c0_), .second, .val (.long d0_), .second, .val (.int sel), .val (.int pick), .val (.int (4 : Int32)), .val (.long a0_), .second, .val (.long b), .second, .val (.long c), .second, .val (.long d), .second, .val (.ref ad1), .val (.ref ad57), .val (.int (3 : Int32)), .val (.long (f1 (f1 (f1 a0_ b) c) d)), .second, .val (.int fi), .val (.int kp), .val (.int ex), .val (.int (f2_4_4 ad57 kc57 a0_ b c d)), .unset]) at_294 rfl rfl ?_
      refine OwnW.aload (pc' := 298) at_296 rfl (rfl) rfl ?_
      refine OwnW.iconst (pc' := 299) (v := (0 : Int32)) at_298 rfl rfl ?_
      obtain ⟨cl90, Ar90, qk90, Sz90, Mn90, Hv90, Gf90⟩ := id V64
      refine OwnW.laload (pc' := 300) (v := (.long a0_)) at_299 Ar90 (inb_of Sz90 ⟨by decide, by decide⟩) (Hv90.at (inb_of Sz90 ⟨by decide, by decide⟩) rfl) rfl ?_
      refine OwnW.lload (pc' := 302) at_300 rfl rfl ?_
      refine OwnW.lcmp (pc' := 303) at_302 rfl ?_
      refine OwnW.ifcN (pc' := 306) at_303 ((if0 _ _).trans (teq ((lw_eq _ _).mpr rfl)).2) rfl ?_
      refine OwnW.iconst (pc' := 307) (v := (1 : Int32)) at_306 rfl rfl ?_
      refine OwnW.goto (pc' := 311) at_307 (by decide) (by decide) ?_
      refine OwnW.istore (pc' := 313) (L' := #[.val (.long a0_), .second, .val (.long b0_), .second, .val (.long c0_), .second, .val (.long d0_), .second, .val (.int sel), .val (.int pick), .val (.int (4 : Int32)), .val (.long a0_), .second, .val (.long b), .second, .val (.long c), .second, .val (.long d), .second, .val (.ref ad1), .val (.ref ad57), .val (.int (3 : Int32)), .val (.long (f1 (f1 (f1 a0_ b) c) d)), .second, .val (.int fi), .val (.int kp), .val (.int ex), .val (.int (f2_4_4 ad57 kc57 a0_ b c d)), .val (.int (1 : Int32))]) at_311 rfl rfl ?_
      refine OwnW.iload (pc' := 315) at_313 rfl rfl ?_
      refine OwnW.iconst (pc' := 316) (v := (1 : Int32)) at_315 rfl rfl ?_
      refine OwnW.icmpN (pc' := 319) at_316 (tlt (by decide)).2.2.2 rfl ?_
      refine OwnW.iload (pc' := 321) at_319 rfl rfl ?_
      refine OwnW.ifcN (pc' := 324) at_321 ((if0 _ _).trans (feq (by decide)).1) rfl ?_
      refine OwnW.aload (pc' := 326) at_324 rfl (rfl) rfl ?_
      refine OwnW.iconst (pc' := 327) (v := (1 : Int32)) at_326 rfl rfl ?_
      obtain ⟨cl91, Ar91, qk91, Sz91, Mn91, Hv91, Gf91⟩ := id V64
      refine OwnW.laload (pc' := 328) (v := (.long b)) at_327 Ar91 (inb_of Sz91 ⟨by decide, by decide⟩) (Hv91.at (inb_of Sz91 ⟨by decide, by decide⟩) rfl) rfl ?_
      refine OwnW.lload (pc' := 330) at_328 rfl rfl ?_
      refine OwnW.lcmp (pc' := 331) at_330 rfl ?_
      refine OwnW.ifcN (pc' := 334) at_331 ((if0 _ _).trans (teq ((lw_eq _ _).mpr rfl)).2) rfl ?_
      refine OwnW.iconst (pc' := 335) (v := (1 : Int32)) at_334 rfl rfl ?_
      refine OwnW.goto (pc' := 339) at_335 (by decide) (by decide) ?_
      refine OwnW.istore (pc' := 341) (L' := #[.val (.long a0_), .second, .val (.long b0_), .second, .val (.long c0_), .second, .val (.long d0_), .second, .val (.int sel), .val (.int pick), .val (.int (4 : Int32)), .val (.long a0_), .second, .val (.long b), .second, .val (.long c), .second, .val (.long d), .second, .val (.ref ad1), .val (.ref ad57), .val (.int (3 : Int32)), .val (.long (f1 (f1 (f1 a0_ b) c) d)), .second, .val (.int fi), .val (.int kp), .val (.int ex), .val (.int (f2_4_4 ad57 kc57 a0_ b c d)), .val (.int (1 : Int32))]) at_339 rfl rfl ?_
      refine OwnW.iload (pc' := 343) at_341 rfl rfl ?_
      refine OwnW.iconst (pc' := 344) (v := (2 : Int32)) at_343 rfl rfl ?_
      refine OwnW.icmpN (pc' := 347) at_344 (tlt (by decide)).2.2.2 rfl ?_
      refine OwnW.iload (pc' := 349) at_347 rfl rfl ?_
      refine OwnW.ifcN (pc' := 352) at_349 ((if0 _ _).trans (feq (by decide)).1) rfl ?_
      refine OwnW.aload (pc' := 354) at_352 rfl (rfl) rfl ?_
      refine OwnW.iconst (pc' := 355) (v := (2 : Int32)) at_354 rfl rfl ?_
      obtain ⟨cl92, Ar92, qk92, Sz92, Mn92, Hv92, Gf92⟩ := id V64
      refine OwnW.laload (pc' := 356) (v := (.long c)) at_355 Ar92 (inb_of Sz92 ⟨by decide, by decide⟩) (Hv92.at (inb_of Sz92 ⟨by decide, by decide⟩) rfl) rfl ?_
      refine OwnW.lload (pc' := 358) at_356 rfl rfl ?_
      refine OwnW.lcmp (pc' := 359) at_358 rfl ?_
      refine OwnW.ifcN (pc' := 362) at_359 ((if0 _ _).trans (teq ((lw_eq _ _).mpr rfl)).2) rfl ?_
      refine OwnW.iconst (pc' := 363) (v := (1 : Int32)) at_362 rfl rfl ?_
      refine OwnW.goto (pc' := 367) at_363 (by decide) (by decide) ?_
      refine OwnW.istore (pc' := 369) (L' := #[.val (.long a0_), .second, .val (.long b0_), .second, .val (.long c0_), .second, .val (.long d0_), .second, .val (.int sel), .val (.int pick), .val (.int (4 : Int32)), .val (.long a0_), .second, .val (.long b), .second, .val (.long c), .second, .val (.long d), .second, .val (.ref ad1), .val (.ref ad57), .val (.int (3 : Int32)), .val (.long (f1 (f1 (f1 a0_ b) c) d)), .second, .val (.int fi), .val (.int kp), .val (.int ex), .val (.int (f2_4_4 ad57 kc57 a0_ b c d)), .val (.int (1 : Int32))]) at_367 rfl rfl ?_
      refine OwnW.iload (pc' := 371) at_369 rfl rfl ?_
      refine OwnW.iconst (pc' := 372) (v := (3 : Int32)) at_371 rfl rfl ?_
      refine OwnW.icmpN (pc' := 375) at_372 (tlt (by decide)).2.2.2 rfl ?_
      refine OwnW.iload (pc' := 377) at_375 rfl rfl ?_
      refine OwnW.ifcN (pc' := 380) at_377 ((if0 _ _).trans (feq (by decide)).1) rfl ?_
      refine OwnW.aload (pc' := 382) at_380 rfl (rfl) rfl ?_
      refine OwnW.iconst (pc' := 383) (v := (3 : Int32)) at_382 rfl rfl ?_
      obtain ⟨cl93, Ar93, qk93, Sz93, Mn93, Hv93, Gf93⟩ := id V64
      refine OwnW.laload (pc' := 384) (v := (.long d)) at_383 Ar93 (inb_of Sz93 ⟨by decide, by decide⟩) (Hv93.at (inb_of Sz93 ⟨by decide, by decide⟩) rfl) rfl ?_
      refine OwnW.lload (pc' := 386) at_384 rfl rfl ?_
      refine OwnW.lcmp (pc' := 387) at_386 rfl ?_
      refine OwnW.ifcN (pc' := 390) at_387 ((if0 _ _).trans (teq ((lw_eq _ _).mpr rfl)).2) rfl ?_
      refine OwnW.iconst (pc' := 391) (v := (1 : Int32)) at_390 rfl rfl ?_
      refine OwnW.goto (pc' := 395) at_391 (by decide) (by decide) ?_
      refine OwnW.istore (pc' := 397) (L' := #[.val (.long a0_), .second, .val (.long b0_), .second, .val (.long c0_), .second, .val (.long d0_), .second, .val (.int sel), .val (.int pick), .val (.int (4 : Int32)), .val (.long a0_), .second, .val (.long b), .second, .val (.long c), .second, .val (.long d), .second, .val (.ref ad1), .val (.ref ad57), .val (.int (3 : Int32)), .val (.long (f1 (f1 (f1 a0_ b) c) d)), .second, .val (.int fi), .val (.int kp), .val (.int ex), .val (.int (f2_4_4 ad57 kc57 a0_ b c d)), .val (.int (1 : Int32))]) at_395 rfl rfl ?_
      refine OwnW.iload (pc' := 399) at_397 rfl rfl ?_
      refine OwnW.iload (pc' := 401) at_399 rfl rfl ?_
      by_cases hc401 : (f2_4_4 ad57 kc57 a0_ b c d) = ex
      ·
        refine OwnW.icmpN (pc' := 404) at_401 (teq hc401).2 rfl ?_
        refine OwnW.iload (pc' := 406) at_404 rfl rfl ?_
        refine OwnW.ifcN (pc' := 409) at_406 ((if0 _ _).trans (feq (by decide)).1) rfl ?_
        refine OwnW.iconst (pc' := 410) (v := (1 : Int32)) at_409 rfl rfl ?_
        refine OwnW.goto (pc' := 414) at_410 (by decide) (by decide) ?_
        exact OwnW.retN (t := .boolean) at_414 rfl (by simp) rfl (by decide) (by decide) (rfl)
      ·
        refine OwnW.icmpY (pc' := 413) at_401 (feq hc401).2 (by decide) (by decide) ?_
        refine OwnW.iconst (pc' := 414) (v := (0 : Int32)) at_413 rfl rfl ?_
        exact OwnW.retN (t := .boolean) at_414 rfl (by simp) rfl (by decide) (by decide) (absurd (own_law4_4 (d := d) hfi hkp hex) hc401)
set_option maxRecDepth 65536 in
set_option maxHeartbeats 400000000 in
theorem comes_1 {Post : Tables → Env → Array Value → State → Outcome → State → Prop} (hpost : ∀ tb e args s v u, (limb_1_1.after args s (.returned v) u = true ∧ limb_1_2.after args s (.returned v) u = true ∧ True) → FrameEnd s (.returned v) u (Jvm.fieldLocs frame_1_writes args s ++ Jvm.arrayLocs frame_1_arrays args s ++ Jvm.staticLocs frame_1_statics s) 16 128 → Post tb e args s (.returned v) u) :
    ArmFor flags0 classFile x code maxLocals ret World_1 tables_1 room_1 Calls_1 rest_1 Pre_1 Post := by
  intro l hfl _ _ p e ha hc hk s m args below hf hA hF happ hP
  obtain ⟨hcalls, hrest, hpre⟩ := hP
  obtain ⟨-, -, -, hnamed, -, -, -, hat⟩ := (Spec.applies_iff hf).mp happ
  obtain ⟨hg, hn⟩ := and_e (Cond.before_iff.mp (show (Jvm.Cond.and given_1 narrow_1).before args s = true from hpre))
  obtain ⟨hcount, hr0⟩ := and_e hg
  obtain ⟨w0, w1, w2, w3, w4, w5, rfl⟩ : ∃ w0 w1 w2 w3 w4 w5 : Value, args = #[w0, w1, w2, w3, w4, w5] := by
    have hs : args.size = 6 := by simpa [Cond.value, given_1] using hcount
    obtain ⟨L⟩ := args
    match L, hs with
    | [w0, w1, w2, w3, w4, w5], _ => exact ⟨w0, w1, w2, w3, w4, w5, rfl⟩
  have hw := fun d (hd : d ∈ tables_1) => atoms_spec (ws := Jvm.Cond.code x code maxLocals ret :: tables_1) hat d (List.mem_cons_of_mem _ hd)
  have hfit : Fit s := fun {y c} hc i hi => by
    obtain ⟨ha, rfl⟩ := Array.getElem?_eq_some_iff.mp hc
    have q := List.all_eq_true.mp ((Array.all_eq_true_iff_forall_mem.mp hF) _ (Array.getElem_mem ha)) i (List.mem_range.mpr hi)
    simpa [Array.getElem?_eq_getElem hi] using q
  obtain ⟨hq0, hr1⟩ := and_e hr0
  obtain ⟨i0, ei0⟩ := isL_v hq0
  obtain rfl : w0 = (.long i0) := Option.some.inj ei0
  obtain ⟨hq1, hr2⟩ := and_e hr1
  obtain ⟨i1, ei1⟩ := isL_v hq1
  obtain rfl : w1 = (.long i1) := Option.some.inj ei1
  obtain ⟨hq2, hr3⟩ := and_e hr2
  obtain ⟨i2, ei2⟩ := isL_v hq2
  obtain rfl : w2 = (.long i2) := Option.some.inj ei2
  obtain ⟨hq3, hr4⟩ := and_e hr3
  obtain ⟨i3, ei3⟩ := isL_v hq3
  obtain rfl : w3 = (.long i3) := Option.some.inj ei3
  obtain ⟨hq4, hr5⟩ := and_e hr4
  obtain ⟨i4, ei4⟩ := is_v hq4
  obtain rfl : w4 = (.int i4) := Option.some.inj ei4
  obtain ⟨i5, ei5⟩ := is_v hr5
  obtain rfl : w5 = (.int i5) := Option.some.inj ei5
  obtain ⟨n, o, h1, h2, h3, _, L, rfl, ⟨rfl, N⟩, hq⟩ := rm0 l s _ hw i0 i1 i2 i3 i4 i5 s.heap s.heap.size (Nat.le_refl _) tables_1 p e ha hc hk s m _ below hf ((Spec.applies_iff_loose hf).mp happ).1 ⟨rfl, State.Warmed39.refl s, rfl⟩ trivial
  refine ⟨n, _, h1, h2, h3, hpost _ _ _ _ _ _ ⟨Cond.after_iff.mpr rfl, Cond.after_iff.mpr (eq_i res_at (Term.int_eval (1)) rfl), trivial⟩ ⟨hq.1, hq.2.1, (hq.2.2.sift fun y hy => Or.inr (N y hy)).mono (by decide) (by decide)⟩⟩
theorem main_1_1 : Claimed_1_1 := comes_1 fun _ _ _ _ _ _ h hF => ⟨h.1, hF⟩
theorem main_1_2 : Claimed_1_2 := comes_1 fun _ _ _ _ _ _ h hF => ⟨h.2.1, hF⟩
end Jvm.Pilot.@@N@@
namespace Jvm.Pilot.@@N@@
open Jvm Jvm.ClassFile Sem Op Lib Jvm.Free Jvm.Stand Jvm.Pilot.@@N@@.Jvm.D
/-! MADE BY PROGRAM (witnessworld.py) out of the Statement's table words and the real class files: 12 classes; the members and pool entries that the words name. The judged class is class 1, her method 1. -/
namespace start1
open Jvm.ClassFile
def u (s : String) : CpInfo := .utf8 (stringToUtf16 s)
/-- a pool by its gaps: so many unusable entries, then the entry; so many at the end -/
def gap : Nat → List CpInfo → List CpInfo
  | 0, r => r
  | n + 1, r => .unusable :: gap n r
def poolList (es : List (Nat × CpInfo)) (last : Nat) : List CpInfo := es.foldr (fun e r => gap e.1 (e.2 :: r)) (gap last [])
def pool (es : List (Nat × CpInfo)) (last : Nat) : Array CpInfo := ⟨poolList es last⟩
def fileOf (pool : Array CpInfo) (this : Nat) (attrs : Array Attribute := #[]) (ms : Array MethodInfo := #[]) (fl : Nat := 33) (sup : Nat := 0) (ifs : Array Nat := #[]) (fds : Array FieldInfo := #[]) : ClassFile where
  minorVersion := 0
  majorVersion := 65
  constantPool := pool
  accessFlags := fl
  thisClass := this
  superClass := sup
  interfaces := ifs
  fields := fds
  methods := ms
  attributes := attrs
def plain (name : String) (sup : Option ClassId) : Class where
  name := name
  kind := .ordinary
  loader := none
  accessFlags := 33
  super := sup
  interfaces := #[]
  cf := none
  fields := #[]
  methods := #[]
  instanceTypes := #[]
  staticTypes := #[]
  resolved := #[]
  callSites := []
  init := .initialized
  statics := none
  mirror := none

def pool0 : Array CpInfo := pool [(5, u "<init>"), (0, u "()V"), (1, .class_ 10), (1, u "java/lang/Object")] 113

def k0m0 : Method := { name := "<init>", desc := "()V", sig := { parameters := [], returnType := none }, accessFlags := 1, code := none }
/-- java/lang/Object -/
def k0 : Class := { plain "java/lang/Object" none with
  accessFlags := 33
  interfaces := #[]
  cf := some (fileOf pool0 8 #[] #[{ accessFlags := 1, nameIndex := 5, descriptorIndex := 6, attributes := #[] }] 33 0 #[] #[])
  fields := #[]
  methods := #[k0m0]
  instanceTypes := #[]
  staticTypes := #[]
  resolved := Array.replicate 124 none
  statics := none }

def pool1 : Array CpInfo := pool [(2, .class_ 4), (1, u "java/lang/Object"), (0, u "<init>"), (0, u "()V"), (0, .integer 2147483647), (0, .methodref 9 10), (0, .class_ 11), (0, .nameAndType 12 13), (0, u "java/lang/Math"), (0, u "min"), (0, u "(JJ)J"), (0, .methodref 15 16), (0, .class_ 17), (0, .nameAndType 18 19), (0, u "com/example/parley/parley/treesearch/ByValue"), (0, u "firstLeast"), (0, u "([JI)I"), (0, .class_ 21), (0, u "com/example/parley/parley/treesearch/ByValueFirstLeastPinLaw"), (2, u "law"), (0, u "(JJJJII)Z")] 5

def k1m0 : Method := { name := "<init>", desc := "()V", sig := { parameters := [], returnType := none }, accessFlags := 2, code := none }
def k1c1 : Code := { maxStack := 5, maxLocals := 29, code := code, exceptionTable := #[], attributes := #[] }
def k1m1 : Method := { name := "law", desc := "(JJJJII)Z", sig := { parameters := [.long, .long, .long, .long, .int, .int], returnType := some .boolean }, accessFlags := 9, code := some k1c1 }
/-- com/example/parley/parley/treesearch/ByValueFirstLeastPinLaw -/
def k1 : Class := { plain "com/example/parley/parley/treesearch/ByValueFirstLeastPinLaw" (some 0) with
  accessFlags := 49
  interfaces := #[]
  cf := some (fileOf pool1 20 #[] #[{ accessFlags := 2, nameIndex := 5, descriptorIndex := 6, attributes := #[] }, { accessFlags := 9, nameIndex := 24, descriptorIndex := 25, attributes := #[] }] 49 2 #[] #[])
  fields := #[]
  methods := #[k1m0, k1m1]
  instanceTypes := #[]
  staticTypes := #[]
  resolved := Array.replicate 31 none
  statics := none }

def pool2 : Array CpInfo := pool [(1, .class_ 2), (0, u "java/lang/Math"), (1, .class_ 6), (1, u "java/lang/Object"), (0, u "<init>"), (0, u "()V"), (89, .class_ 100), (1, u "java/lang/Math$RandomNumberGeneratorHolder"), (20, u "(JJ)J"), (50, u "negativeZeroFloatBits"), (0, u "J"), (2, u "negativeZeroDoubleBits"), (24, u "min"), (43, u "$assertionsDisabled"), (0, u "Z"), (91, u "twoToTheDoubleScaleDown"), (0, u "D"), (4, u "twoToTheDoubleScaleUp"), (9, u "E"), (3, u "PI"), (2, u "TAU"), (2, u "DEGREES_TO_RADIANS"), (0, u "RADIANS_TO_DEGREES")] 94

def k2m0 : Method := { name := "<init>", desc := "()V", sig := { parameters := [], returnType := none }, accessFlags := 2, code := none }
def k2c1 : Code := { maxStack := 4, maxLocals := 4, code := jdk_29_method_70_code, exceptionTable := #[], attributes := #[] }
def k2m1 : Method := { name := "min", desc := "(JJ)J", sig := { parameters := [.long, .long], returnType := some .long }, accessFlags := 9, code := some k2c1 }
/-- java/lang/Math -/
def k2 : Class := { plain "java/lang/Math" (some 0) with
  accessFlags := 49
  interfaces := #[]
  cf := some (fileOf pool2 1 #[.nestMembers #[98]] #[{ accessFlags := 2, nameIndex := 7, descriptorIndex := 8, attributes := #[] }, { accessFlags := 9, nameIndex := 201, descriptorIndex := 121, attributes := #[] }] 49 4 #[] #[{ accessFlags := 25, nameIndex := 354, descriptorIndex := 339, attributes := #[] }, { accessFlags := 25, nameIndex := 358, descriptorIndex := 339, attributes := #[] }, { accessFlags := 25, nameIndex := 361, descriptorIndex := 339, attributes := #[] }, { accessFlags := 26, nameIndex := 364, descriptorIndex := 339, attributes := #[] }, { accessFlags := 26, nameIndex := 365, descriptorIndex := 339, attributes := #[] }, { accessFlags := 26, nameIndex := 172, descriptorIndex := 173, attributes := #[] }, { accessFlags := 26, nameIndex := 176, descriptorIndex := 173, attributes := #[] }, { accessFlags := 8, nameIndex := 344, descriptorIndex := 339, attributes := #[] }, { accessFlags := 8, nameIndex := 338, descriptorIndex := 339, attributes := #[] }, { accessFlags := 4120, nameIndex := 245, descriptorIndex := 246, attributes := #[] }])
  fields := #[{ name := "E", type := .double, accessFlags := 25, slot := 0, constantValue := 0 }, { name := "PI", type := .double, accessFlags := 25, slot := 1, constantValue := 0 }, { name := "TAU", type := .double, accessFlags := 25, slot := 2, constantValue := 0 }, { name := "DEGREES_TO_RADIANS", type := .double, accessFlags := 26, slot := 3, constantValue := 0 }, { name := "RADIANS_TO_DEGREES", type := .double, accessFlags := 26, slot := 4, constantValue := 0 }, { name := "negativeZeroFloatBits", type := .long, accessFlags := 26, slot := 5, constantValue := 0 }, { name := "negativeZeroDoubleBits", type := .long, accessFlags := 26, slot := 6, constantValue := 0 }, { name := "twoToTheDoubleScaleUp", type := .double, accessFlags := 8, slot := 7, constantValue := 0 }, { name := "twoToTheDoubleScaleDown", type := .double, accessFlags := 8, slot := 8, constantValue := 0 }, { name := "$assertionsDisabled", type := .boolean, accessFlags := 4120, slot := 9, constantValue := 0 }]
  methods := #[k2m0, k2m1]
  instanceTypes := #[]
  staticTypes := #[.double, .double, .double, .double, .double, .long, .long, .double, .double, .boolean]
  resolved := Array.replicate 460 none
  statics := none }

def pool3 : Array CpInfo := pool [(2, .class_ 4), (1, u "java/lang/Object"), (0, u "<init>"), (0, u "()V"), (6, .class_ 14), (0, u "com/example/parley/parley/treesearch/ByValue"), (9, u "firstLeast"), (0, u "([JI)I")] 2

def k3m0 : Method := { name := "<init>", desc := "()V", sig := { parameters := [], returnType := none }, accessFlags := 2, code := none }
def k3c1 : Code := { maxStack := 4, maxLocals := 4, code := prog_59_method_3_code, exceptionTable := #[], attributes := #[] }
def k3m1 : Method := { name := "firstLeast", desc := "([JI)I", sig := { parameters := [(.array .long), .int], returnType := some .int }, accessFlags := 9, code := some k3c1 }
/-- com/example/parley/parley/treesearch/ByValue -/
def k3 : Class := { plain "com/example/parley/parley/treesearch/ByValue" (some 0) with
  accessFlags := 49
  interfaces := #[]
  cf := some (fileOf pool3 13 #[] #[{ accessFlags := 2, nameIndex := 5, descriptorIndex := 6, attributes := #[] }, { accessFlags := 9, nameIndex := 24, descriptorIndex := 25, attributes := #[] }] 49 2 #[] #[])
  fields := #[]
  methods := #[k3m0, k3m1]
  instanceTypes := #[]
  staticTypes := #[]
  resolved := Array.replicate 28 none
  statics := none }

def pool4 : Array CpInfo := pool [(1, u "java/lang/Cloneable"), (0, .class_ 1), (0, u "java/lang/Object"), (0, .class_ 3)] 3

/-- java/lang/Cloneable -/
def k4 : Class := { plain "java/lang/Cloneable" (some 0) with
  accessFlags := 1537
  interfaces := #[]
  cf := some (fileOf pool4 2 #[] #[] 1537 4 #[] #[])
  fields := #[]
  methods := #[]
  instanceTypes := #[]
  staticTypes := #[]
  resolved := Array.replicate 8 none
  statics := none }

def pool5 : Array CpInfo := pool [(1, u "java/io/Serializable"), (0, .class_ 1), (0, u "java/lang/Object"), (0, .class_ 3)] 3

/-- java/io/Serializable -/
def k5 : Class := { plain "java/io/Serializable" (some 0) with
  accessFlags := 1537
  interfaces := #[]
  cf := some (fileOf pool5 2 #[] #[] 1537 4 #[] #[])
  fields := #[]
  methods := #[]
  instanceTypes := #[]
  staticTypes := #[]
  resolved := Array.replicate 8 none
  statics := none }

/-- the primitive byte -/
def k6 : Class := { plain "byte" none with kind := .primitive 'B', accessFlags := 0x411 }
/-- [B -/
def k7 : Class := { plain "[B" (some 0) with kind := .array 6 .byte, interfaces := #[4, 5], accessFlags := 1041 }

/-- the primitive int -/
def k8 : Class := { plain "int" none with kind := .primitive 'I', accessFlags := 0x411 }
/-- [I -/
def k9 : Class := { plain "[I" (some 0) with kind := .array 8 .int, interfaces := #[4, 5], accessFlags := 1041 }

/-- the primitive long -/
def k10 : Class := { plain "long" none with kind := .primitive 'J', accessFlags := 0x411 }
/-- [J -/
def k11 : Class := { plain "[J" (some 0) with kind := .array 10 .long, interfaces := #[4, 5], accessFlags := 1041 }

def heap : Heap := #[]
def classes : Array Class := #[k0, k1, k2, k3, k4, k5, k6, k7, k8, k9, k10, k11]
def interned : List (Array UInt16 × Addr) := []
def slotsUsed : Nat := 0
def theMethod : MethodId := ⟨1, 1⟩
def args0 : Array Value := #[.long 1, .long 2, .long 3, .long 4, .int 1, .int 1]
def aboutOver (below : List Frame) : State where
  vm := { classes := classes, interned := interned.toArray }
  heap := heap
  slotsUsed := slotsUsed
  threads := #[{ frames := .invoking theMethod args0 :: below }]
def below0 : List Frame := [.native { method := ⟨0, 0⟩, args := #[] }]
def about1 : State := aboutOver below0
def p0 : Program := .bare "" "" ""
def e0 : Env := launch0.env 0 0 0
theorem w_frames : about1.frames = Frame.invoking theMethod args0 :: below0 := rfl
set_option maxRecDepth 65536 in
theorem w_args : argsFit about1.vm theMethod args0 = true := by decide +kernel
set_option maxRecDepth 65536 in
theorem w_heap : heapFits about1 = true := by decide +kernel
set_option maxRecDepth 65536 in
theorem w_runnable : about1.curStatus? = some .runnable := by decide +kernel
set_option maxRecDepth 65536 in
theorem w_alone : about1.alone = true := by decide +kernel
set_option maxRecDepth 65536 in
theorem w_named : about1.methodNamed? x = some theMethod := by decide +kernel
set_option maxRecDepth 65536 in
theorem w_hears : about1.hears theMethod below0 = true := by decide +kernel
set_option maxRecDepth 65536 in
theorem w_ripe : about1.ripe theMethod args0 below0 = true := by decide +kernel
theorem w_running : about1.status = .running := rfl
set_option maxRecDepth 65536 in
theorem w_room : about1.hasRoom e0.platform room_1 = true :=
  launch0.hasRoom_least _ room_1 (by decide +kernel) (by decide +kernel) (by decide +kernel) (by decide +kernel) (by decide +kernel) (by decide +kernel)
theorem allAtoms_all (ts : List Jvm.Cond) (a : Array Jvm.Value) (st : Jvm.State) : (allAtoms ts).before a st = ts.all (fun c => c.before a st) := by
  induction ts with
  | nil => rfl
  | cons c t ih =>
    show (Jvm.Cond.and c (allAtoms t)).before a st = _
    rw [Jvm.Cond.before_and, ih, List.all_cons]
def words1 : List Jvm.Cond := Jvm.Cond.code x code maxLocals ret :: tables_1
/-- a 'code' word, met by the world's own term for the bytes: nothing is compared byte by byte -/
theorem code_word {y : MethodName} {bytes : ByteArray} {mx : Nat} {rt : Option FieldType} {a : Array Value} {s : State} {m : MethodId} {meth : Method} {c : Code} (h1 : s.methodNamed? y = some m) (h2 : s.vm.method? m = some meth) (h3 : meth.code = some c) (h4 : c.code = bytes)
    (h5 : (c.maxLocals == mx && c.exceptionTable.isEmpty && decide (c.maxStack ≤ mostOperands) && decide (meth.sig.returnType = rt) && !meth.locks && decide (parseMethodDescriptor y.desc = some meth.sig)) = true) : (Jvm.Cond.code y bytes mx rt).before a s = true := by
  simp only [Bool.and_eq_true, beq_iff_eq, Bool.not_eq_true', decide_eq_true_eq] at h5
  obtain ⟨⟨⟨⟨⟨g1, g2⟩, g3⟩, g4⟩, g5⟩, g6⟩ := h5
  simp [Cond.before, Cond.holds, Cond.value, h1, h2, h3, h4, g1, g2, g3, g4, g5, g6]
def isCode : Jvm.Cond → Bool
  | .code _ _ _ _ => true
  | _ => false
theorem all_split {L : List Jvm.Cond} {P : Jvm.Cond → Bool} (h1 : L.all (fun c => isCode c || P c) = true) (h2 : ∀ c ∈ L.filter isCode, P c = true) : L.all P = true := by
  refine List.all_eq_true.mpr fun c hc => ?_
  have h := List.all_eq_true.mp h1 c hc
  rcases Bool.eq_false_or_eq_true (isCode c) with hi | hi
  · exact h2 c (List.mem_filter.mpr ⟨hc, hi⟩)
  · simpa [hi] using h
set_option maxRecDepth 65536 in
theorem w_c0 : (Jvm.Cond.code x code maxLocals ret).before args0 about1 = true := code_word (m := ⟨1, 1⟩) (meth := k1m1) (c := k1c1) (by decide +kernel) rfl rfl rfl (by decide +kernel)
set_option maxRecDepth 65536 in
theorem w_c1 : (Jvm.Cond.code ({ cls := "java/lang/Math", name := "min", desc := "(JJ)J" } : Jvm.MethodName) jdk_29_method_70_code (4 : Nat) (Option.some Jvm.ClassFile.FieldType.long)).before args0 about1 = true := code_word (m := ⟨2, 1⟩) (meth := k2m1) (c := k2c1) (by decide +kernel) rfl rfl rfl (by decide +kernel)
set_option maxRecDepth 65536 in
theorem w_c2 : (Jvm.Cond.code ({ cls := "com/example/parley/parley/treesearch/ByValue", name := "firstLeast", desc := "([JI)I" } : Jvm.MethodName) prog_59_method_3_code (4 : Nat) (Option.some Jvm.ClassFile.FieldType.int)).before args0 about1 = true := code_word (m := ⟨3, 1⟩) (meth := k3m1) (c := k3c1) (by decide +kernel) rfl rfl rfl (by decide +kernel)
def codes1 : List Jvm.Cond := [Jvm.Cond.code x code maxLocals ret, Jvm.Cond.code ({ cls := "java/lang/Math", name := "min", desc := "(JJ)J" } : Jvm.MethodName) jdk_29_method_70_code (4 : Nat) (Option.some Jvm.ClassFile.FieldType.long), Jvm.Cond.code ({ cls := "com/example/parley/parley/treesearch/ByValue", name := "firstLeast", desc := "([JI)I" } : Jvm.MethodName) prog_59_method_3_code (4 : Nat) (Option.some Jvm.ClassFile.FieldType.int)]
set_option maxRecDepth 65536 in
theorem codes_eq : words1.filter isCode = codes1 := rfl
theorem w_codes : ∀ c ∈ words1.filter isCode, c.before args0 about1 = true := by
  rw [codes_eq]
  intro c hc
  simp only [codes1, List.mem_cons, List.not_mem_nil, or_false] at hc
  rcases hc with rfl | rfl | rfl
  · exact w_c0
  · exact w_c1
  · exact w_c2
set_option maxRecDepth 65536 in
theorem w_t1 : words1.all (fun c => isCode c || c.before args0 about1) = true := by decide +kernel
theorem w_tables : (allAtoms (Jvm.Cond.code x code maxLocals ret :: tables_1)).before args0 about1 = true := by
  rw [allAtoms_all]
  show words1.all (fun c => c.before args0 about1) = true
  refine all_split ?_ w_codes
  rw [w_t1]
set_option maxRecDepth 65536 in
theorem w_case : (Jvm.Cond.and given_1 narrow_1).before args0 about1 = true := by decide +kernel
theorem w_applies : (headSpec (Jvm.Cond.code x code maxLocals ret :: tables_1) room_1).applies x e0.platform about1 = true :=
  (Spec.applies_iff w_frames).mpr ⟨w_running, w_runnable, w_alone, w_named, w_hears, w_ripe, w_room, w_tables⟩
theorem atStart : AtStart classFile x code maxLocals ret World_1 tables_1 room_1 Calls_1 rest_1 Pre_1 launch0 p0 e0 about1 theMethod args0 below0 :=
  ⟨lists_1, trivial, launch0.admits_env _ _ _, launch0.least_env, fairChoices_fair.cas, fairChoices_fair.clock, w_frames, w_args, w_heap, w_applies, trivial, trivial, w_case⟩
end start1
theorem witness_1 : WitnessClaimed_1 := ⟨start1.p0, start1.e0, start1.about1, start1.theMethod, start1.args0, start1.below0, start1.atStart⟩
end Jvm.Pilot.@@N@@
