import JvmDerived
import JvmDerived.Pilot.@@N@@Statement
import JvmDerived.Pilot.@@N@@Code
set_option linter.unusedVariables false
set_option linter.unusedSimpArgs false
namespace Jvm.OwnW
open Sem ClassFile Op Lib Jvm.Stand Jvm.Free Jvm.LawKit Jvm.RoadKit
/-- what a walk knows of its method and of the run -/
def Cx (p : Program) (s : State) (m : MethodId) (meth : Method) (c : Code) (Z : State) (y : MethodName) (bs : ByteArray) (ml : Nat) (ret : Option FieldType) : Prop :=
  p.tables.exec = Jvm.exec ∧ c.code = bs ∧ c.maxLocals = ml ∧ s.vm.findClass y.cls = some m.cls ∧ meth.name = y.name ∧ meth.sig.returnType = ret ∧ meth.locks = false ∧ Z.Warmed39 s.vm
/-- from the state u the body comes to its end, returns v and leaves the heap as Q says; it wrote cells from n0 on alone -/
def Runs (p : Program) (e : Env) (below : List Frame) (s : State) (R : Room) (n0 : Nat) (Q : Option Value → Heap → Prop) (u : State) : Prop :=
  ∃ s₂ o, Steps p.tables e below u s₂ ∧ s₂.status = .running ∧ Ended s₂ below o ∧ ∃ v Ls, o = .returned v ∧ (Q v s₂.heap ∧ Fr n0 Ls) ∧ FrameEnd s o s₂ Ls R.cells R.slots
/-- from pc with these locals and this stack, the heap being h, k cells and n slots made so far: the body ends as Q says -/
def Go (l : Launch) (Z : State) (R : Room) (y : MethodName) (bs : ByteArray) (ml : Nat) (ret : Option FieldType) (n0 : Nat) (Q : Option Value → Heap → Prop) (h : Heap) (k n : Nat) (pc : Nat) (L : Array Slot) (St : List Value) : Prop :=
  ∀ (p : Program) (e : Env) (s : State) (m : MethodId) (args : Array Value) (below : List Frame) (meth : Method) (c : Code) (T : State) (locs : List Loc),
    Cx p s m meth c Z y bs ml ret → Stand p l e R s m args below meth c T locs k n → Fr n0 locs → T.heap = h → Runs p e below s R n0 Q (T.setTop (mkF m pc L St))
/-- it returns r, the heap as it was -/
def Ret (r : Option Value) (h0 : Heap) : Option Value → Heap → Prop := fun v h => v = r ∧ h0 = h
/-- the law says 1 -/
def One1 : Option Value → Heap → Prop := fun v _ => v = some (.int 1)
/-- the body's contract -/
def Con (l : Launch) (Z : State) (R : Room) (y : MethodName) (bs : ByteArray) (ml : Nat) (ret : Option FieldType) (n0 : Nat) (as' : Array Value) (h : Heap) (Q : Option Value → Heap → Prop) : Prop :=
  ∀ ws, MetFree l y (head1 (Jvm.Cond.code y bs ml ret :: ws) R) (fun a U => a = as' ∧ Z.Warmed39 U.vm ∧ U.heap = h) (fun _ _ _ _ _ => True) (fun _ U o U' => ∃ v Ls, o = .returned v ∧ (Q v U'.heap ∧ Fr n0 Ls) ∧ FrameEnd U o U' Ls R.cells R.slots)
theorem Runs.thru {p : Program} {e : Env} {below : List Frame} {s : State} {R : Room} {n0 : Nat} {Q : Option Value → Heap → Prop} {u u' : State} (q : Runs p e below s R n0 Q u') (st : ∀ t, Steps p.tables e below u' t → Steps p.tables e below u t) : Runs p e below s R n0 Q u := by
  obtain ⟨s₂, o, h1, r⟩ := q
  exact ⟨s₂, o, st _ h1, r⟩
/-- what stood in h0 stands in h -/
theorem ext_refl (h : Heap) : Ext h h := ⟨Nat.le_refl _, fun _ _ q => q⟩
theorem ext_trans {h0 h h' : Heap} (X : Ext h0 h) (E : Ext h h') : Ext h0 h' := ⟨Nat.le_trans X.1 E.1, fun a c q => E.2 a c (X.2 a c q)⟩
theorem ext_keep {h0 h h' : Heap} {ws : List Addr} (X : Ext h0 h) (K : Keep h h' ws) (q : ∀ x ∈ ws, h0.size ≤ x) : Ext h0 h' :=
  ⟨Nat.le_trans X.1 K.1, fun a c r => K.2.1 a c (X.2 a c r) fun z => absurd (Array.getElem?_eq_some_iff.mp r).1 (Nat.not_lt.mpr (q a z))⟩
theorem ext_wr {h0 h h' : Heap} {a : Addr} {sl : Nat} {v : Value} (X : Ext h0 h) (W : Wr h h' a sl v) (q : h0.size ≤ a) : Ext h0 h' := ext_keep X (Keep.of_wr W) (allS q all0)
theorem exa_ns {Z : State} {h : Heap} {a : Addr} {C : String} (E : Exa Z h a C) : ∀ c : Cell, h[a]? = some c → c.vm.isStatics = false := fun c q => by
  obtain ⟨cell, k, h1, -, -, h4, -⟩ := E
  cases h1.symm.trans q
  exact h4
theorem sta_keep {Z : State} {h h' : Heap} {C n d : String} {w : Value} {ws : List Addr} (F : Sta Z h C n d w) (K : Keep h h' ws) (q : ∀ x ∈ ws, ∀ c : Cell, h[x]? = some c → c.vm.isStatics = false) : Sta Z h' C n d w := by
  obtain ⟨cf, i, k, f, st, cell, h1, h2, h3, h4, h5, h6, h7⟩ := F
  exact ⟨cf, i, k, f, st, cell, h1, h2, h3, h4, K.2.1 st cell h5 (fun m => by have r := q st m cell h5; rw [h6] at r; cases r), h6, h7⟩
theorem eqI {args : Array Value} {first s : State} {o : Option Outcome} {idx : List Nat} {a b : Term} {k : Int32} (h : (Cond.eq a b).value args first o s idx = some true) (hb : b.eval args first o idx s = some (.int k)) : a.eval args first o idx s = some (.int k) := by
  obtain ⟨x, z, e1, e2, k1, k2⟩ := cmp_v (Or.inl h)
  cases hb.symm.trans e2
  obtain ⟨w, rfl⟩ := k2
  have h' := h
  simp only [Cond.value, e1, hb, Option.some.injEq, decide_eq_true_eq] at h'
  rw [e1, h']
theorem eqJ {args : Array Value} {first s : State} {o : Option Outcome} {idx : List Nat} {a b : Term} {k : Int64} (h : (Cond.eq a b).value args first o s idx = some true) (hb : b.eval args first o idx s = some (.long k)) : a.eval args first o idx s = some (.long k) := by
  obtain ⟨x, z, e1, e2, k1, k2⟩ := cmp_v (Or.inl h)
  cases hb.symm.trans e2
  obtain ⟨w, rfl⟩ := k2
  have h' := h
  simp only [Cond.value, e1, hb, Option.some.injEq, decide_eq_true_eq] at h'
  rw [e1, h']
theorem arrClass {Z : State} {a0 : Array Value} {C : String} (w : (Cond.arrayOver (.object C)).before a0 Z = true) : (Cond.arrayClass (.object C)).before a0 Z = true := by
  obtain ⟨comp, c, k, -, -, h3, h4, h5⟩ := Cond.arrayOver_spec w
  simp [Cond.before, Cond.holds, Cond.value, h5, h3, h4]
theorem ovrOf {Z : State} {a0 : Array Value} {C : String} {cI : ClassId} (w : (Cond.arrayOver (.object C)).before a0 Z = true) (h : Z.vm.findClass (FieldType.array (.object C)).toString = some cI) : Ovr Z cI C := by
  obtain ⟨comp, c, k, h1, -, h3, h4, h5⟩ := Cond.arrayOver_spec w
  have e : (FieldType.array (.object C)).toString = "[" ++ (FieldType.object C).toString := rfl
  rw [e, h5] at h
  cases h
  exact ⟨k, comp, h3, h4, h1⟩
section Laws
variable {l : Launch} {Z : State} {R : Room} {y : MethodName} {bs : ByteArray} {ml : Nat} {ret : Option FieldType} {n0 : Nat} {Q : Option Value → Heap → Prop} {h : Heap} {k n : Nat} {k' n' : Nat} {pc pc' : Nat} {L L' : Array Slot} {St : List Value} {a0 : Array Value}
theorem Con.of {as' : Array Value} (pn : plainFor y = true) (ef : ∀ m, entryFrame m as' ml = mkF m 0 L []) (b : Go l Z R y bs ml ret n0 Q h 0 0 0 L []) : Con l Z R y bs ml ret n0 as' h Q := by
  intro ws
  refine MetFree.of_bodySF pn hisR ?_
  intro p e s m args below meth c s₁ Bd hml0 hP hK
  obtain ⟨rfl, hZ, hh⟩ := hP
  have X0 : Stand p l e R s m args below meth c s₁ [] 0 0 := Stand.of_body Bd
  have e0 : s₁.heap = h := by rw [← hh, Bd.state]; rfl
  have q := b p e s m args below meth c s₁ [] ⟨Bd.exec, Bd.bytes, hml0, findClass_of_methodNamed Bd.named, (name_of_methodNamed Bd.named Bd.method).1, Bd.returns, Bd.notSynchronized, hZ⟩ X0 (Fr.nil n0) e0
  rw [← ef m] at q
  exact q
theorem Con.mono {as' : Array Value} {Q' : Option Value → Heap → Prop} (q : Con l Z R y bs ml ret n0 as' h Q) (i : ∀ v h', Q v h' → Q' v h') : Con l Z R y bs ml ret n0 as' h Q' := by
  intro ws p e ha hc hk s m args below hf happ hP hK
  obtain ⟨s₂, o, h1, h2, h3, v, Ls, h4, ⟨h5, h6⟩, h7⟩ := q ws p e ha hc hk s m args below hf happ hP hK
  exact ⟨s₂, o, h1, h2, h3, v, Ls, h4, ⟨i _ _ h5, h6⟩, h7⟩
/-- the same, the heap's name turned -/
theorem Go.cast {h' : Heap} (e : h' = h) (q : Go l Z R y bs ml ret n0 Q h' k n pc L St) : Go l Z R y bs ml ret n0 Q h k n pc L St := e ▸ q
theorem Go.more {k' n' : Nat} (hk : k ≤ k') (hn : n ≤ n') (q : Go l Z R y bs ml ret n0 Q h k' n' pc L St) : Go l Z R y bs ml ret n0 Q h k n pc L St := fun p e s m args below meth c T locs C X N eT => q p e s m args below meth c T locs C (X.mono hk hn) N eT
theorem Go.frm {St' : List Value} (q : Go l Z R y bs ml ret n0 Q h k n pc L' St') (e1 : L = L') (e2 : St = St') : Go l Z R y bs ml ret n0 Q h k n pc L St := by subst e1 e2; exact q

theorem iload {i : Nat} {v : Int32} (hd : decode bs pc = .ok (.iload i, 2)) (hl : L[i]? = some (.val (.int v))) (hp : pc + 2 = pc') (kt : Go l Z R y bs ml ret n0 Q h k n pc' L (.int v :: St)) : Go l Z R y bs ml ret n0 Q h k n pc L St := by
  subst hp
  intro p e s m args below meth c T locs C X N eT
  exact (kt p e s m args below meth c T locs C X N eT).thru fun t q => XS.iload X.here C.1 rfl (hb C.2.1 hd) hl q
theorem iloadN {i : Fin 4} {v : Int32} (hd : decode bs pc = .ok (.iload_n i, 1)) (hl : L[i.val]? = some (.val (.int v))) (hp : pc + 1 = pc') (kt : Go l Z R y bs ml ret n0 Q h k n pc' L (.int v :: St)) : Go l Z R y bs ml ret n0 Q h k n pc L St := by
  subst hp
  intro p e s m args below meth c T locs C X N eT
  exact (kt p e s m args below meth c T locs C X N eT).thru fun t q => XS.iloadN X.here C.1 rfl (hb C.2.1 hd) hl q
theorem istore {i : Nat} {v : Int32} (hd : decode bs pc = .ok (.istore i, 2)) (hl : storeLocals L i (.int v) = some L') (hp : pc + 2 = pc') (kt : Go l Z R y bs ml ret n0 Q h k n pc' L' St) : Go l Z R y bs ml ret n0 Q h k n pc L (.int v :: St) := by
  subst hp
  intro p e s m args below meth c T locs C X N eT
  exact (kt p e s m args below meth c T locs C X N eT).thru fun t q => XS.istore X.here C.1 rfl (hb C.2.1 hd) rfl hl q
theorem istoreN {i : Fin 4} {v : Int32} (hd : decode bs pc = .ok (.istore_n i, 1)) (hl : storeLocals L i.val (.int v) = some L') (hp : pc + 1 = pc') (kt : Go l Z R y bs ml ret n0 Q h k n pc' L' St) : Go l Z R y bs ml ret n0 Q h k n pc L (.int v :: St) := by
  subst hp
  intro p e s m args below meth c T locs C X N eT
  exact (kt p e s m args below meth c T locs C X N eT).thru fun t q => XS.istoreN X.here C.1 rfl (hb C.2.1 hd) rfl hl q
theorem lload {i : Nat} {v : Int64} (hd : decode bs pc = .ok (.lload i, 2)) (hl : L[i]? = some (.val (.long v))) (hp : pc + 2 = pc') (kt : Go l Z R y bs ml ret n0 Q h k n pc' L (.long v :: St)) : Go l Z R y bs ml ret n0 Q h k n pc L St := by
  subst hp
  intro p e s m args below meth c T locs C X N eT
  exact (kt p e s m args below meth c T locs C X N eT).thru fun t q => XS.lload X.here C.1 rfl (hb C.2.1 hd) hl q
theorem lloadN {i : Fin 4} {v : Int64} (hd : decode bs pc = .ok (.lload_n i, 1)) (hl : L[i.val]? = some (.val (.long v))) (hp : pc + 1 = pc') (kt : Go l Z R y bs ml ret n0 Q h k n pc' L (.long v :: St)) : Go l Z R y bs ml ret n0 Q h k n pc L St := by
  subst hp
  intro p e s m args below meth c T locs C X N eT
  exact (kt p e s m args below meth c T locs C X N eT).thru fun t q => XS.lloadN X.here C.1 rfl (hb C.2.1 hd) hl q
theorem lstore {i : Nat} {v : Int64} (hd : decode bs pc = .ok (.lstore i, 2)) (hl : storeLocals L i (.long v) = some L') (hp : pc + 2 = pc') (kt : Go l Z R y bs ml ret n0 Q h k n pc' L' St) : Go l Z R y bs ml ret n0 Q h k n pc L (.long v :: St) := by
  subst hp
  intro p e s m args below meth c T locs C X N eT
  exact (kt p e s m args below meth c T locs C X N eT).thru fun t q => XS.lstore X.here C.1 rfl (hb C.2.1 hd) rfl hl q
theorem lstoreN {i : Fin 4} {v : Int64} (hd : decode bs pc = .ok (.lstore_n i, 1)) (hl : storeLocals L i.val (.long v) = some L') (hp : pc + 1 = pc') (kt : Go l Z R y bs ml ret n0 Q h k n pc' L' St) : Go l Z R y bs ml ret n0 Q h k n pc L (.long v :: St) := by
  subst hp
  intro p e s m args below meth c T locs C X N eT
  exact (kt p e s m args below meth c T locs C X N eT).thru fun t q => XS.lstoreN X.here C.1 rfl (hb C.2.1 hd) rfl hl q
theorem aload {i : Nat} {v : Value} (hd : decode bs pc = .ok (.aload i, 2)) (hl : L[i]? = some (.val v)) (hv : v.isRef = true) (hp : pc + 2 = pc') (kt : Go l Z R y bs ml ret n0 Q h k n pc' L (v :: St)) : Go l Z R y bs ml ret n0 Q h k n pc L St := by
  subst hp
  intro p e s m args below meth c T locs C X N eT
  exact (kt p e s m args below meth c T locs C X N eT).thru fun t q => XS.aload X.here C.1 rfl (hb C.2.1 hd) hl hv q
theorem aloadN {i : Fin 4} {v : Value} (hd : decode bs pc = .ok (.aload_n i, 1)) (hl : L[i.val]? = some (.val v)) (hv : v.isRef = true) (hp : pc + 1 = pc') (kt : Go l Z R y bs ml ret n0 Q h k n pc' L (v :: St)) : Go l Z R y bs ml ret n0 Q h k n pc L St := by
  subst hp
  intro p e s m args below meth c T locs C X N eT
  exact (kt p e s m args below meth c T locs C X N eT).thru fun t q => XS.aloadN X.here C.1 rfl (hb C.2.1 hd) hl hv q
theorem astore {i : Nat} {v : Value} (hd : decode bs pc = .ok (.astore i, 2)) (hv : v.isRef = true) (hl : storeLocals L i v = some L') (hp : pc + 2 = pc') (kt : Go l Z R y bs ml ret n0 Q h k n pc' L' St) : Go l Z R y bs ml ret n0 Q h k n pc L (v :: St) := by
  subst hp
  intro p e s m args below meth c T locs C X N eT
  exact (kt p e s m args below meth c T locs C X N eT).thru fun t q => XS.astore X.here C.1 rfl (hb C.2.1 hd) rfl hv hl q
theorem astoreN {i : Fin 4} {v : Value} (hd : decode bs pc = .ok (.astore_n i, 1)) (hv : v.isRef = true) (hl : storeLocals L i.val v = some L') (hp : pc + 1 = pc') (kt : Go l Z R y bs ml ret n0 Q h k n pc' L' St) : Go l Z R y bs ml ret n0 Q h k n pc L (v :: St) := by
  subst hp
  intro p e s m args below meth c T locs C X N eT
  exact (kt p e s m args below meth c T locs C X N eT).thru fun t q => XS.astoreN X.here C.1 rfl (hb C.2.1 hd) rfl hv hl q
theorem iconst {i : Int} {v : Int32} (hd : decode bs pc = .ok (.iconst i, 1)) (hv : Int32.ofInt i = v) (hp : pc + 1 = pc') (kt : Go l Z R y bs ml ret n0 Q h k n pc' L (.int v :: St)) : Go l Z R y bs ml ret n0 Q h k n pc L St := by
  subst hp hv
  intro p e s m args below meth c T locs C X N eT
  exact (kt p e s m args below meth c T locs C X N eT).thru fun t q => XS.iconst X.here C.1 rfl (hb C.2.1 hd) q
theorem bipush {i : Int} {v : Int32} (hd : decode bs pc = .ok (.bipush i, 2)) (hv : (Int8.ofInt i).toInt32 = v) (hp : pc + 2 = pc') (kt : Go l Z R y bs ml ret n0 Q h k n pc' L (.int v :: St)) : Go l Z R y bs ml ret n0 Q h k n pc L St := by
  subst hp hv
  intro p e s m args below meth c T locs C X N eT
  exact (kt p e s m args below meth c T locs C X N eT).thru fun t q => XS.bipush X.here C.1 rfl (hb C.2.1 hd) q
theorem sipush {i : Int} {v : Int32} (hd : decode bs pc = .ok (.sipush i, 3)) (hv : (Int16.ofInt i).toInt32 = v) (hp : pc + 3 = pc') (kt : Go l Z R y bs ml ret n0 Q h k n pc' L (.int v :: St)) : Go l Z R y bs ml ret n0 Q h k n pc L St := by
  subst hp hv
  intro p e s m args below meth c T locs C X N eT
  exact (kt p e s m args below meth c T locs C X N eT).thru fun t q => XS.sipush X.here C.1 rfl (hb C.2.1 hd) q
theorem aconstNull  (hd : decode bs pc = .ok (.aconst_null, 1)) (hp : pc + 1 = pc') (kt : Go l Z R y bs ml ret n0 Q h k n pc' L (.null :: St)) : Go l Z R y bs ml ret n0 Q h k n pc L St := by
  subst hp
  intro p e s m args below meth c T locs C X N eT
  exact (kt p e s m args below meth c T locs C X N eT).thru fun t q => XS.aconstNull X.here C.1 rfl (hb C.2.1 hd) q
theorem iadd {x z : Int32} (hd : decode bs pc = .ok (.iadd, 1)) (hp : pc + 1 = pc') (kt : Go l Z R y bs ml ret n0 Q h k n pc' L (.int (x + z) :: St)) : Go l Z R y bs ml ret n0 Q h k n pc L (.int z :: .int x :: St) := by
  subst hp
  intro p e s m args below meth c T locs C X N eT
  exact (kt p e s m args below meth c T locs C X N eT).thru fun t q => XS.iadd X.here C.1 rfl (hb C.2.1 hd) rfl q
theorem isub {x z : Int32} (hd : decode bs pc = .ok (.isub, 1)) (hp : pc + 1 = pc') (kt : Go l Z R y bs ml ret n0 Q h k n pc' L (.int (x - z) :: St)) : Go l Z R y bs ml ret n0 Q h k n pc L (.int z :: .int x :: St) := by
  subst hp
  intro p e s m args below meth c T locs C X N eT
  exact (kt p e s m args below meth c T locs C X N eT).thru fun t q => XS.isub X.here C.1 rfl (hb C.2.1 hd) rfl q
theorem imul {x z : Int32} (hd : decode bs pc = .ok (.imul, 1)) (hp : pc + 1 = pc') (kt : Go l Z R y bs ml ret n0 Q h k n pc' L (.int (x * z) :: St)) : Go l Z R y bs ml ret n0 Q h k n pc L (.int z :: .int x :: St) := by
  subst hp
  intro p e s m args below meth c T locs C X N eT
  exact (kt p e s m args below meth c T locs C X N eT).thru fun t q => XS.imul X.here C.1 rfl (hb C.2.1 hd) rfl q
theorem iand {x z : Int32} (hd : decode bs pc = .ok (.iand, 1)) (hp : pc + 1 = pc') (kt : Go l Z R y bs ml ret n0 Q h k n pc' L (.int (x &&& z) :: St)) : Go l Z R y bs ml ret n0 Q h k n pc L (.int z :: .int x :: St) := by
  subst hp
  intro p e s m args below meth c T locs C X N eT
  exact (kt p e s m args below meth c T locs C X N eT).thru fun t q => XS.iand X.here C.1 rfl (hb C.2.1 hd) rfl q
theorem ior {x z : Int32} (hd : decode bs pc = .ok (.ior, 1)) (hp : pc + 1 = pc') (kt : Go l Z R y bs ml ret n0 Q h k n pc' L (.int (x ||| z) :: St)) : Go l Z R y bs ml ret n0 Q h k n pc L (.int z :: .int x :: St) := by
  subst hp
  intro p e s m args below meth c T locs C X N eT
  exact (kt p e s m args below meth c T locs C X N eT).thru fun t q => XS.ior X.here C.1 rfl (hb C.2.1 hd) rfl q
theorem ixor {x z : Int32} (hd : decode bs pc = .ok (.ixor, 1)) (hp : pc + 1 = pc') (kt : Go l Z R y bs ml ret n0 Q h k n pc' L (.int (x ^^^ z) :: St)) : Go l Z R y bs ml ret n0 Q h k n pc L (.int z :: .int x :: St) := by
  subst hp
  intro p e s m args below meth c T locs C X N eT
  exact (kt p e s m args below meth c T locs C X N eT).thru fun t q => XS.ixor X.here C.1 rfl (hb C.2.1 hd) rfl q
theorem ishl {x z : Int32} (hd : decode bs pc = .ok (.ishl, 1)) (hp : pc + 1 = pc') (kt : Go l Z R y bs ml ret n0 Q h k n pc' L (.int (x <<< (z &&& 31)) :: St)) : Go l Z R y bs ml ret n0 Q h k n pc L (.int z :: .int x :: St) := by
  subst hp
  intro p e s m args below meth c T locs C X N eT
  exact (kt p e s m args below meth c T locs C X N eT).thru fun t q => XS.ishl X.here C.1 rfl (hb C.2.1 hd) rfl q
theorem ishr {x z : Int32} (hd : decode bs pc = .ok (.ishr, 1)) (hp : pc + 1 = pc') (kt : Go l Z R y bs ml ret n0 Q h k n pc' L (.int (x >>> (z &&& 31)) :: St)) : Go l Z R y bs ml ret n0 Q h k n pc L (.int z :: .int x :: St) := by
  subst hp
  intro p e s m args below meth c T locs C X N eT
  exact (kt p e s m args below meth c T locs C X N eT).thru fun t q => XS.ishr X.here C.1 rfl (hb C.2.1 hd) rfl q
theorem iushr {x z : Int32} (hd : decode bs pc = .ok (.iushr, 1)) (hp : pc + 1 = pc') (kt : Go l Z R y bs ml ret n0 Q h k n pc' L (.int ((x.toUInt32 >>> (z &&& 31).toUInt32).toInt32) :: St)) : Go l Z R y bs ml ret n0 Q h k n pc L (.int z :: .int x :: St) := by
  subst hp
  intro p e s m args below meth c T locs C X N eT
  exact (kt p e s m args below meth c T locs C X N eT).thru fun t q => XS.iushr X.here C.1 rfl (hb C.2.1 hd) rfl q
theorem ladd {x z : Int64} (hd : decode bs pc = .ok (.ladd, 1)) (hp : pc + 1 = pc') (kt : Go l Z R y bs ml ret n0 Q h k n pc' L (.long (x + z) :: St)) : Go l Z R y bs ml ret n0 Q h k n pc L (.long z :: .long x :: St) := by
  subst hp
  intro p e s m args below meth c T locs C X N eT
  exact (kt p e s m args below meth c T locs C X N eT).thru fun t q => XS.ladd X.here C.1 rfl (hb C.2.1 hd) rfl q
theorem lsub {x z : Int64} (hd : decode bs pc = .ok (.lsub, 1)) (hp : pc + 1 = pc') (kt : Go l Z R y bs ml ret n0 Q h k n pc' L (.long (x - z) :: St)) : Go l Z R y bs ml ret n0 Q h k n pc L (.long z :: .long x :: St) := by
  subst hp
  intro p e s m args below meth c T locs C X N eT
  exact (kt p e s m args below meth c T locs C X N eT).thru fun t q => XS.lsub X.here C.1 rfl (hb C.2.1 hd) rfl q
theorem lmul {x z : Int64} (hd : decode bs pc = .ok (.lmul, 1)) (hp : pc + 1 = pc') (kt : Go l Z R y bs ml ret n0 Q h k n pc' L (.long (x * z) :: St)) : Go l Z R y bs ml ret n0 Q h k n pc L (.long z :: .long x :: St) := by
  subst hp
  intro p e s m args below meth c T locs C X N eT
  exact (kt p e s m args below meth c T locs C X N eT).thru fun t q => XS.lmul X.here C.1 rfl (hb C.2.1 hd) rfl q
theorem land {x z : Int64} (hd : decode bs pc = .ok (.land, 1)) (hp : pc + 1 = pc') (kt : Go l Z R y bs ml ret n0 Q h k n pc' L (.long (x &&& z) :: St)) : Go l Z R y bs ml ret n0 Q h k n pc L (.long z :: .long x :: St) := by
  subst hp
  intro p e s m args below meth c T locs C X N eT
  exact (kt p e s m args below meth c T locs C X N eT).thru fun t q => XS.land X.here C.1 rfl (hb C.2.1 hd) rfl q
theorem lor {x z : Int64} (hd : decode bs pc = .ok (.lor, 1)) (hp : pc + 1 = pc') (kt : Go l Z R y bs ml ret n0 Q h k n pc' L (.long (x ||| z) :: St)) : Go l Z R y bs ml ret n0 Q h k n pc L (.long z :: .long x :: St) := by
  subst hp
  intro p e s m args below meth c T locs C X N eT
  exact (kt p e s m args below meth c T locs C X N eT).thru fun t q => XS.lor X.here C.1 rfl (hb C.2.1 hd) rfl q
theorem lxor {x z : Int64} (hd : decode bs pc = .ok (.lxor, 1)) (hp : pc + 1 = pc') (kt : Go l Z R y bs ml ret n0 Q h k n pc' L (.long (x ^^^ z) :: St)) : Go l Z R y bs ml ret n0 Q h k n pc L (.long z :: .long x :: St) := by
  subst hp
  intro p e s m args below meth c T locs C X N eT
  exact (kt p e s m args below meth c T locs C X N eT).thru fun t q => XS.lxor X.here C.1 rfl (hb C.2.1 hd) rfl q
theorem lshl {x : Int64} {z : Int32} (hd : decode bs pc = .ok (.lshl, 1)) (hp : pc + 1 = pc') (kt : Go l Z R y bs ml ret n0 Q h k n pc' L (.long (x <<< (z &&& 0x3f).toInt64) :: St)) : Go l Z R y bs ml ret n0 Q h k n pc L (.int z :: .long x :: St) := by
  subst hp
  intro p e s m args below meth c T locs C X N eT
  exact (kt p e s m args below meth c T locs C X N eT).thru fun t q => XS.lshl X.here C.1 rfl (hb C.2.1 hd) rfl q
theorem lshr {x : Int64} {z : Int32} (hd : decode bs pc = .ok (.lshr, 1)) (hp : pc + 1 = pc') (kt : Go l Z R y bs ml ret n0 Q h k n pc' L (.long (x >>> (z &&& 0x3f).toInt64) :: St)) : Go l Z R y bs ml ret n0 Q h k n pc L (.int z :: .long x :: St) := by
  subst hp
  intro p e s m args below meth c T locs C X N eT
  exact (kt p e s m args below meth c T locs C X N eT).thru fun t q => XS.lshr X.here C.1 rfl (hb C.2.1 hd) rfl q
theorem lushr {x : Int64} {z : Int32} (hd : decode bs pc = .ok (.lushr, 1)) (hp : pc + 1 = pc') (kt : Go l Z R y bs ml ret n0 Q h k n pc' L (.long ((x.toUInt64 >>> (z &&& 0x3f).toInt64.toUInt64).toInt64) :: St)) : Go l Z R y bs ml ret n0 Q h k n pc L (.int z :: .long x :: St) := by
  subst hp
  intro p e s m args below meth c T locs C X N eT
  exact (kt p e s m args below meth c T locs C X N eT).thru fun t q => XS.lushr X.here C.1 rfl (hb C.2.1 hd) rfl q
theorem ineg {x : Int32} (hd : decode bs pc = .ok (.ineg, 1)) (hp : pc + 1 = pc') (kt : Go l Z R y bs ml ret n0 Q h k n pc' L (.int (-x) :: St)) : Go l Z R y bs ml ret n0 Q h k n pc L (.int x :: St) := by
  subst hp
  intro p e s m args below meth c T locs C X N eT
  exact (kt p e s m args below meth c T locs C X N eT).thru fun t q => XS.ineg X.here C.1 rfl (hb C.2.1 hd) rfl q
theorem lneg {x : Int64} (hd : decode bs pc = .ok (.lneg, 1)) (hp : pc + 1 = pc') (kt : Go l Z R y bs ml ret n0 Q h k n pc' L (.long (-x) :: St)) : Go l Z R y bs ml ret n0 Q h k n pc L (.long x :: St) := by
  subst hp
  intro p e s m args below meth c T locs C X N eT
  exact (kt p e s m args below meth c T locs C X N eT).thru fun t q => XS.lneg X.here C.1 rfl (hb C.2.1 hd) rfl q
theorem i2l {x : Int32} (hd : decode bs pc = .ok (.i2l, 1)) (hp : pc + 1 = pc') (kt : Go l Z R y bs ml ret n0 Q h k n pc' L (.long (x.toInt64) :: St)) : Go l Z R y bs ml ret n0 Q h k n pc L (.int x :: St) := by
  subst hp
  intro p e s m args below meth c T locs C X N eT
  exact (kt p e s m args below meth c T locs C X N eT).thru fun t q => XS.i2l X.here C.1 rfl (hb C.2.1 hd) rfl q
theorem l2i {x : Int64} (hd : decode bs pc = .ok (.l2i, 1)) (hp : pc + 1 = pc') (kt : Go l Z R y bs ml ret n0 Q h k n pc' L (.int (x.toInt32) :: St)) : Go l Z R y bs ml ret n0 Q h k n pc L (.long x :: St) := by
  subst hp
  intro p e s m args below meth c T locs C X N eT
  exact (kt p e s m args below meth c T locs C X N eT).thru fun t q => XS.l2i X.here C.1 rfl (hb C.2.1 hd) rfl q
theorem i2b {x : Int32} (hd : decode bs pc = .ok (.i2b, 1)) (hp : pc + 1 = pc') (kt : Go l Z R y bs ml ret n0 Q h k n pc' L (.int (x.toInt8.toInt32) :: St)) : Go l Z R y bs ml ret n0 Q h k n pc L (.int x :: St) := by
  subst hp
  intro p e s m args below meth c T locs C X N eT
  exact (kt p e s m args below meth c T locs C X N eT).thru fun t q => XS.i2b X.here C.1 rfl (hb C.2.1 hd) rfl q
theorem i2s {x : Int32} (hd : decode bs pc = .ok (.i2s, 1)) (hp : pc + 1 = pc') (kt : Go l Z R y bs ml ret n0 Q h k n pc' L (.int (x.toInt16.toInt32) :: St)) : Go l Z R y bs ml ret n0 Q h k n pc L (.int x :: St) := by
  subst hp
  intro p e s m args below meth c T locs C X N eT
  exact (kt p e s m args below meth c T locs C X N eT).thru fun t q => XS.i2s X.here C.1 rfl (hb C.2.1 hd) rfl q
theorem i2c {x : Int32} (hd : decode bs pc = .ok (.i2c, 1)) (hp : pc + 1 = pc') (kt : Go l Z R y bs ml ret n0 Q h k n pc' L (.int (x.toUInt32.toUInt16.toUInt32.toInt32) :: St)) : Go l Z R y bs ml ret n0 Q h k n pc L (.int x :: St) := by
  subst hp
  intro p e s m args below meth c T locs C X N eT
  exact (kt p e s m args below meth c T locs C X N eT).thru fun t q => XS.i2c X.here C.1 rfl (hb C.2.1 hd) rfl q
theorem lcmp {x z : Int64} (hd : decode bs pc = .ok (.lcmp, 1)) (hp : pc + 1 = pc') (kt : Go l Z R y bs ml ret n0 Q h k n pc' L (.int (lcmpW x z) :: St)) : Go l Z R y bs ml ret n0 Q h k n pc L (.long z :: .long x :: St) := by
  subst hp
  intro p e s m args below meth c T locs C X N eT
  exact (kt p e s m args below meth c T locs C X N eT).thru fun t q => XS.lcmp X.here C.1 rfl (hb C.2.1 hd) rfl q
theorem idiv {x z : Int32} (hd : decode bs pc = .ok (.idiv, 1)) (hz : z ≠ 0) (hp : pc + 1 = pc') (kt : Go l Z R y bs ml ret n0 Q h k n pc' L (.int (x / z) :: St)) : Go l Z R y bs ml ret n0 Q h k n pc L (.int z :: .int x :: St) := by
  subst hp
  intro p e s m args below meth c T locs C X N eT
  exact (kt p e s m args below meth c T locs C X N eT).thru fun t q => XS.idiv X.here C.1 rfl (hb C.2.1 hd) rfl hz q
theorem irem {x z : Int32} (hd : decode bs pc = .ok (.irem, 1)) (hz : z ≠ 0) (hp : pc + 1 = pc') (kt : Go l Z R y bs ml ret n0 Q h k n pc' L (.int (x % z) :: St)) : Go l Z R y bs ml ret n0 Q h k n pc L (.int z :: .int x :: St) := by
  subst hp
  intro p e s m args below meth c T locs C X N eT
  exact (kt p e s m args below meth c T locs C X N eT).thru fun t q => iremM X C.1 rfl (hb C.2.1 hd) rfl hz q
theorem lrem {x z : Int64} (hd : decode bs pc = .ok (.lrem, 1)) (hz : z ≠ 0) (hp : pc + 1 = pc') (kt : Go l Z R y bs ml ret n0 Q h k n pc' L (.long (x % z) :: St)) : Go l Z R y bs ml ret n0 Q h k n pc L (.long z :: .long x :: St) := by
  subst hp
  rw [← lrem_mod] at kt
  intro p e s m args below meth c T locs C X N eT
  exact (kt p e s m args below meth c T locs C X N eT).thru fun t q => XS.lrem X.here C.1 rfl (hb C.2.1 hd) rfl hz q
theorem ldiv {x z : Int64} (hd : decode bs pc = .ok (.ldiv, 1)) (hz : z ≠ 0) (hp : pc + 1 = pc') (kt : Go l Z R y bs ml ret n0 Q h k n pc' L (.long (x / z) :: St)) : Go l Z R y bs ml ret n0 Q h k n pc L (.long z :: .long x :: St) := by
  subst hp
  intro p e s m args below meth c T locs C X N eT
  exact (kt p e s m args below meth c T locs C X N eT).thru fun t q => XS.ldiv X.here C.1 rfl (hb C.2.1 hd) rfl hz q
theorem dup {v : Value} (hd : decode bs pc = .ok (.dup, 1)) (hc : v.category = 1) (hp : pc + 1 = pc') (kt : Go l Z R y bs ml ret n0 Q h k n pc' L (v :: v :: St)) : Go l Z R y bs ml ret n0 Q h k n pc L (v :: St) := by
  subst hp
  intro p e s m args below meth c T locs C X N eT
  exact (kt p e s m args below meth c T locs C X N eT).thru fun t q => XS.dup X.here C.1 rfl (hb C.2.1 hd) rfl hc q
theorem pop {v : Value} (hd : decode bs pc = .ok (.pop, 1)) (hc : v.category = 1) (hp : pc + 1 = pc') (kt : Go l Z R y bs ml ret n0 Q h k n pc' L St) : Go l Z R y bs ml ret n0 Q h k n pc L (v :: St) := by
  subst hp
  intro p e s m args below meth c T locs C X N eT
  exact (kt p e s m args below meth c T locs C X N eT).thru fun t q => XS.pop X.here C.1 rfl (hb C.2.1 hd) rfl hc q
theorem dupX1 {v w : Value} (hd : decode bs pc = .ok (.dup_x1, 1)) (hc : v.category = 1) (hw : w.category = 1) (hp : pc + 1 = pc') (kt : Go l Z R y bs ml ret n0 Q h k n pc' L (v :: w :: v :: St)) : Go l Z R y bs ml ret n0 Q h k n pc L (v :: w :: St) := by
  subst hp
  intro p e s m args below meth c T locs C X N eT
  exact (kt p e s m args below meth c T locs C X N eT).thru fun t q => XS.dupX1 X.here C.1 rfl (hb C.2.1 hd) rfl hc hw q
theorem dup2 {v w : Value} (hd : decode bs pc = .ok (.dup2, 1)) (hc : v.category = 1) (hw : w.category = 1) (hp : pc + 1 = pc') (kt : Go l Z R y bs ml ret n0 Q h k n pc' L (v :: w :: v :: w :: St)) : Go l Z R y bs ml ret n0 Q h k n pc L (v :: w :: St) := by
  subst hp
  intro p e s m args below meth c T locs C X N eT
  exact (kt p e s m args below meth c T locs C X N eT).thru fun t q => XT.dup2 X.here C.1 rfl (hb C.2.1 hd) rfl hc hw q
theorem dup2L {x : Int64} (hd : decode bs pc = .ok (.dup2, 1)) (hp : pc + 1 = pc') (kt : Go l Z R y bs ml ret n0 Q h k n pc' L (.long x :: .long x :: St)) : Go l Z R y bs ml ret n0 Q h k n pc L (.long x :: St) := by
  subst hp
  intro p e s m args below meth c T locs C X N eT
  exact (kt p e s m args below meth c T locs C X N eT).thru fun t q => XT.dup2L X.here C.1 rfl (hb C.2.1 hd) rfl q
theorem lconst {i : Fin 2} {v : Int64} (hd : decode bs pc = .ok (.lconst i, 1)) (hv : Int64.ofNat i.val = v) (hp : pc + 1 = pc') (kt : Go l Z R y bs ml ret n0 Q h k n pc' L (.long v :: St)) : Go l Z R y bs ml ret n0 Q h k n pc L St := by
  subst hp hv
  intro p e s m args below meth c T locs C X N eT
  exact (kt p e s m args below meth c T locs C X N eT).thru fun t q => XS.lconst X.here C.1 rfl (hb C.2.1 hd) q
theorem iinc {i : Nat} {cst : Int} {x d : Int32} (hd : decode bs pc = .ok (.iinc i cst, 3)) (hl : L[i]? = some (.val (.int x))) (hv : Int32.ofInt cst = d) (hs : storeLocals L i (.int (x + d)) = some L') (hp : pc + 3 = pc') (kt : Go l Z R y bs ml ret n0 Q h k n pc' L' St) : Go l Z R y bs ml ret n0 Q h k n pc L St := by
  subst hp hv
  intro p e s m args below meth c T locs C X N eT
  exact (kt p e s m args below meth c T locs C X N eT).thru fun t q => XS.iinc X.here C.1 rfl (hb C.2.1 hd) hl hs q
theorem goto {o : Int} (hd : decode bs pc = .ok (.goto o, 3)) (ho : 0 ≤ (pc : Int) + o) (hp : ((pc : Int) + o).toNat = pc') (kt : Go l Z R y bs ml ret n0 Q h k n pc' L St) : Go l Z R y bs ml ret n0 Q h k n pc L St := by
  intro p e s m args below meth c T locs C X N eT
  exact (kt p e s m args below meth c T locs C X N eT).thru fun t q => XS.goto X.here C.1 rfl rfl (hb C.2.1 hd) ho hp q
theorem icmpY {cd : ClassFile.Cond} {o : Int} {x z : Int32} (hd : decode bs pc = .ok (.if_icmp cd o, 3)) (hc : if_icmp.holds cd x z = true) (ho : 0 ≤ (pc : Int) + o) (hp : ((pc : Int) + o).toNat = pc') (kt : Go l Z R y bs ml ret n0 Q h k n pc' L St) : Go l Z R y bs ml ret n0 Q h k n pc L (.int z :: .int x :: St) := by
  intro p e s m args below meth c T locs C X N eT
  exact (kt p e s m args below meth c T locs C X N eT).thru fun t q => XS.icmpYes X.here C.1 rfl rfl (hb C.2.1 hd) rfl hc ho hp q
theorem icmpN {cd : ClassFile.Cond} {o : Int} {x z : Int32} (hd : decode bs pc = .ok (.if_icmp cd o, 3)) (hc : if_icmp.holds cd x z = false) (hp : pc + 3 = pc') (kt : Go l Z R y bs ml ret n0 Q h k n pc' L St) : Go l Z R y bs ml ret n0 Q h k n pc L (.int z :: .int x :: St) := by
  subst hp
  intro p e s m args below meth c T locs C X N eT
  exact (kt p e s m args below meth c T locs C X N eT).thru fun t q => XS.icmpNo X.here C.1 rfl (hb C.2.1 hd) rfl hc q
theorem ifcY {cd : ClassFile.Cond} {o : Int} {x : Int32} (hd : decode bs pc = .ok (.ifCond cd o, 3)) (hc : ifCond.holds cd x = true) (ho : 0 ≤ (pc : Int) + o) (hp : ((pc : Int) + o).toNat = pc') (kt : Go l Z R y bs ml ret n0 Q h k n pc' L St) : Go l Z R y bs ml ret n0 Q h k n pc L (.int x :: St) := by
  intro p e s m args below meth c T locs C X N eT
  exact (kt p e s m args below meth c T locs C X N eT).thru fun t q => XS.ifYes X.here C.1 rfl rfl (hb C.2.1 hd) rfl hc ho hp q
theorem ifcN {cd : ClassFile.Cond} {o : Int} {x : Int32} (hd : decode bs pc = .ok (.ifCond cd o, 3)) (hc : ifCond.holds cd x = false) (hp : pc + 3 = pc') (kt : Go l Z R y bs ml ret n0 Q h k n pc' L St) : Go l Z R y bs ml ret n0 Q h k n pc L (.int x :: St) := by
  subst hp
  intro p e s m args below meth c T locs C X N eT
  exact (kt p e s m args below meth c T locs C X N eT).thru fun t q => XS.ifNo X.here C.1 rfl (hb C.2.1 hd) rfl hc q
theorem ifnullY {o : Int}  (hd : decode bs pc = .ok (.ifnull o, 3)) (ho : 0 ≤ (pc : Int) + o) (hp : ((pc : Int) + o).toNat = pc') (kt : Go l Z R y bs ml ret n0 Q h k n pc' L St) : Go l Z R y bs ml ret n0 Q h k n pc L (.null :: St) := by
  intro p e s m args below meth c T locs C X N eT
  exact (kt p e s m args below meth c T locs C X N eT).thru fun t q => XS.ifnullYes X.here C.1 rfl rfl (hb C.2.1 hd) rfl ho hp q
theorem ifnullN {o : Int} {b : Addr} (hd : decode bs pc = .ok (.ifnull o, 3)) (hp : pc + 3 = pc') (kt : Go l Z R y bs ml ret n0 Q h k n pc' L St) : Go l Z R y bs ml ret n0 Q h k n pc L (.ref b :: St) := by
  subst hp
  intro p e s m args below meth c T locs C X N eT
  exact (kt p e s m args below meth c T locs C X N eT).thru fun t q => XS.ifnullNo X.here C.1 rfl (hb C.2.1 hd) rfl q
theorem ifnonnullY {o : Int} {b : Addr} (hd : decode bs pc = .ok (.ifnonnull o, 3)) (ho : 0 ≤ (pc : Int) + o) (hp : ((pc : Int) + o).toNat = pc') (kt : Go l Z R y bs ml ret n0 Q h k n pc' L St) : Go l Z R y bs ml ret n0 Q h k n pc L (.ref b :: St) := by
  intro p e s m args below meth c T locs C X N eT
  exact (kt p e s m args below meth c T locs C X N eT).thru fun t q => XS.ifnonnullYes X.here C.1 rfl rfl (hb C.2.1 hd) rfl ho hp q
theorem ifnonnullN {o : Int}  (hd : decode bs pc = .ok (.ifnonnull o, 3)) (hp : pc + 3 = pc') (kt : Go l Z R y bs ml ret n0 Q h k n pc' L St) : Go l Z R y bs ml ret n0 Q h k n pc L (.null :: St) := by
  subst hp
  intro p e s m args below meth c T locs C X N eT
  exact (kt p e s m args below meth c T locs C X N eT).thru fun t q => XS.ifnonnullNo X.here C.1 rfl (hb C.2.1 hd) rfl q
theorem acmp {cd : ACond} {o : Int} {x z : Value} {same : Bool} (hd : decode bs pc = .ok (.if_acmp cd o, 3)) (h1 : x.isRef = true) (h2 : z.isRef = true) (hq : decide (x = z) = same) (ho : 0 ≤ (pc : Int) + o) (hp : pc' = if acV cd same = true then ((pc : Int) + o).toNat else pc + 3) (kt : Go l Z R y bs ml ret n0 Q h k n pc' L St) : Go l Z R y bs ml ret n0 Q h k n pc L (z :: x :: St) := by
  intro p e s m args below meth c T locs C X N eT
  exact (kt p e s m args below meth c T locs C X N eT).thru fun t q => Jvm.RoadKit.acmp (g := mkF m pc L (z :: x :: St)) X C.1 rfl h1 h2 rfl (hb C.2.1 hd) rfl hq ho hp q
theorem pop2J {x : Int64} (hd : decode bs pc = .ok (.pop2, 1)) (hp : pc + 1 = pc') (kt : Go l Z R y bs ml ret n0 Q h k n pc' L St) : Go l Z R y bs ml ret n0 Q h k n pc L (.long x :: St) := by
  subst hp
  intro p e s m args below meth c T locs C X N eT
  have hx := C.1
  have hd' := hb C.2.1 hd
  refine (kt p e s m args below meth c T locs C X N eT).thru fun t q => ?_
  show Steps p.tables e below (T.setTop { method := m, pc := pc, locals := L, stack := .long x :: St, locked := none }) t
  jvm_step X.here [X.here.top, hx, hd', Value.category]
  exact q
theorem tswIn {dflt low high : Int} {offs : Array Int} {len : Nat} {o : Int} {i : Int32} (hd : decode bs pc = .ok (.tableswitch dflt low high offs, len)) (hin : ¬ (i.toInt < low ∨ i.toInt > high)) (hoff : offs[(i.toInt - low).toNat]? = some o) (ho : 0 ≤ (pc : Int) + o) (hp : ((pc : Int) + o).toNat = pc') (kt : Go l Z R y bs ml ret n0 Q h k n pc' L St) : Go l Z R y bs ml ret n0 Q h k n pc L (.int i :: St) := by
  intro p e s m args below meth c T locs C X N eT
  exact (kt p e s m args below meth c T locs C X N eT).thru fun t q => XS.tswIn X.here C.1 rfl rfl (hb C.2.1 hd) rfl hin hoff ho hp q
theorem tswOut {dflt low high : Int} {offs : Array Int} {len : Nat} {i : Int32} (hd : decode bs pc = .ok (.tableswitch dflt low high offs, len)) (hout : i.toInt < low ∨ i.toInt > high) (ho : 0 ≤ (pc : Int) + dflt) (hp : ((pc : Int) + dflt).toNat = pc') (kt : Go l Z R y bs ml ret n0 Q h k n pc' L St) : Go l Z R y bs ml ret n0 Q h k n pc L (.int i :: St) := by
  intro p e s m args below meth c T locs C X N eT
  exact (kt p e s m args below meth c T locs C X N eT).thru fun t q => XS.tswOut X.here C.1 rfl rfl (hb C.2.1 hd) rfl hout ho hp q
theorem ret0 (hd : decode bs pc = .ok (.return_, 1)) (hr : ret = none) (hk : k ≤ R.cells) (hn : n ≤ R.slots) (hQ : Q none h) : Go l Z R y bs ml ret n0 Q h k n pc L [] := by
  intro p e s m args below meth c T locs C X N eT
  have hret := C.2.2.2.2.2.1.trans hr
  obtain ⟨fs, hl, hrun, hended, hW, hsame⟩ := X.leave (v := none) (fun _ => rfl) C.2.2.2.2.2.2.1
  exact ⟨_, _, X.returnOut C.1 hret (hb C.2.1 hd) hl, hrun, hended, _, _, rfl, ⟨by show Q none T.heap; rw [eT]; exact hQ, N⟩, ⟨_, rfl⟩, hW, hsame.mono hk hn⟩
theorem retN {t : FieldType} {x x' : Int32} (hd : decode bs pc = .ok (.ireturn, 1)) (hr : ret = some t) (ht : t = .boolean ∨ t = .byte ∨ t = .char ∨ t = .short) (hx : nar t x = x') (hk : k ≤ R.cells) (hn : n ≤ R.slots) (hQ : Q (some (.int x')) h) : Go l Z R y bs ml ret n0 Q h k n pc L (.int x :: St) := by
  intro p e s m args below meth c T locs C X N eT
  have hret := C.2.2.2.2.2.1.trans hr
  subst hx
  obtain ⟨fs, hl, hrun, hended, hW, hsame⟩ := X.leave (v := some (.int (nar t x))) (fun q => by rw [hret] at q; cases q) C.2.2.2.2.2.2.1
  exact ⟨_, _, Jvm.RoadKit.retN X C.1 hret ht (hb C.2.1 hd) hl, hrun, hended, _, _, rfl, ⟨by show Q _ T.heap; rw [eT]; exact hQ, N⟩, ⟨_, rfl⟩, hW, hsame.mono hk hn⟩
theorem retI {x : Int32} (hd : decode bs pc = .ok (.ireturn, 1)) (hr : ret = some .int) (hk : k ≤ R.cells) (hn : n ≤ R.slots) (hQ : Q (some (.int x)) h) : Go l Z R y bs ml ret n0 Q h k n pc L (.int x :: St) := by
  intro p e s m args below meth c T locs C X N eT
  have hret := C.2.2.2.2.2.1.trans hr
  obtain ⟨fs, hl, hrun, hended, hW, hsame⟩ := X.leave (v := some (.int x)) (fun q => by rw [hret] at q; cases q) C.2.2.2.2.2.2.1
  exact ⟨_, _, Jvm.RoadKit.retOut X C.1 hret rfl (Or.inl ⟨rfl, Or.inl rfl, _, rfl⟩) (hb C.2.1 hd) hl, hrun, hended, _, _, rfl, ⟨by show Q _ T.heap; rw [eT]; exact hQ, N⟩, ⟨_, rfl⟩, hW, hsame.mono hk hn⟩
theorem retJ {x : Int64} (hd : decode bs pc = .ok (.lreturn, 1)) (hr : ret = some .long) (hk : k ≤ R.cells) (hn : n ≤ R.slots) (hQ : Q (some (.long x)) h) : Go l Z R y bs ml ret n0 Q h k n pc L (.long x :: St) := by
  intro p e s m args below meth c T locs C X N eT
  have hret := C.2.2.2.2.2.1.trans hr
  obtain ⟨fs, hl, hrun, hended, hW, hsame⟩ := X.leave (v := some (.long x)) (fun q => by rw [hret] at q; cases q) C.2.2.2.2.2.2.1
  exact ⟨_, _, Jvm.RoadKit.retOut X C.1 hret rfl (Or.inr (Or.inl ⟨rfl, rfl, _, rfl⟩)) (hb C.2.1 hd) hl, hrun, hended, _, _, rfl, ⟨by show Q _ T.heap; rw [eT]; exact hQ, N⟩, ⟨_, rfl⟩, hW, hsame.mono hk hn⟩
theorem retD {x : UInt64} (hd : decode bs pc = .ok (.dreturn, 1)) (hr : ret = some .double) (hk : k ≤ R.cells) (hn : n ≤ R.slots) (hQ : Q (some (.double x)) h) : Go l Z R y bs ml ret n0 Q h k n pc L (.double x :: St) := by
  intro p e s m args below meth c T locs C X N eT
  have hret := C.2.2.2.2.2.1.trans hr
  obtain ⟨fs, hl, hrun, hended, hW, hsame⟩ := X.leave (v := some (.double x)) (fun q => by rw [hret] at q; cases q) C.2.2.2.2.2.2.1
  exact ⟨_, _, Jvm.RoadKit.retOut X C.1 hret rfl (Or.inr (Or.inr (Or.inl ⟨rfl, rfl, _, rfl⟩))) (hb C.2.1 hd) hl, hrun, hended, _, _, rfl, ⟨by show Q _ T.heap; rw [eT]; exact hQ, N⟩, ⟨_, rfl⟩, hW, hsame.mono hk hn⟩
theorem retA {t : FieldType} {v : Value} (hd : decode bs pc = .ok (.areturn, 1)) (hr : ret = some t) (ht : t.isReference = true) (hv : v.isRef = true) (hk : k ≤ R.cells) (hn : n ≤ R.slots) (hQ : Q (some v) h) : Go l Z R y bs ml ret n0 Q h k n pc L (v :: St) := by
  intro p e s m args below meth c T locs C X N eT
  have hret := C.2.2.2.2.2.1.trans hr
  obtain ⟨fs, hl, hrun, hended, hW, hsame⟩ := X.leave (v := some v) (fun q => by rw [hret] at q; cases q) C.2.2.2.2.2.2.1
  have hna : narrow t v = v := by rcases ref_cases hv with rfl | ⟨a, rfl⟩ <;> cases t <;> first | rfl | (cases ht)
  exact ⟨_, _, Jvm.RoadKit.retOut X C.1 hret hna (Or.inr (Or.inr (Or.inr (Or.inr ⟨rfl, ht, hv⟩)))) (hb C.2.1 hd) hl, hrun, hended, _, _, rfl, ⟨by show Q _ T.heap; rw [eT]; exact hQ, N⟩, ⟨_, rfl⟩, hW, hsame.mono hk hn⟩
theorem ldcI {index : Nat} {v : Int32} (hd : decode bs pc = .ok (.ldc index, 2)) (w : (Cond.constant y.cls index v).before a0 Z = true) (hp : pc + 2 = pc') (kt : Go l Z R y bs ml ret n0 Q h k n pc' L (.int v :: St)) : Go l Z R y bs ml ret n0 Q h k n pc L St := by
  subst hp
  intro p e s m args below meth c T locs C X N eT
  exact (kt p e s m args below meth c T locs C X N eT).thru (X.ldcInt C.1 C.2.2.2.1 (mvT C.2.2.2.2.2.2.2 w) (g := mkF m pc L St) rfl (hb C.2.1 hd))
theorem ldcwI {index : Nat} {v : Int32} (hd : decode bs pc = .ok (.ldc_w index, 3)) (w : (Cond.constant y.cls index v).before a0 Z = true) (hp : pc + 3 = pc') (kt : Go l Z R y bs ml ret n0 Q h k n pc' L (.int v :: St)) : Go l Z R y bs ml ret n0 Q h k n pc L St := by
  subst hp
  intro p e s m args below meth c T locs C X N eT
  exact (kt p e s m args below meth c T locs C X N eT).thru (X.ldcwInt C.1 C.2.2.2.1 (mvT C.2.2.2.2.2.2.2 w) (g := mkF m pc L St) rfl (hb C.2.1 hd))
theorem ldc2J {index : Nat} {v : Int64} (hd : decode bs pc = .ok (.ldc2_w index, 3)) (w : (Cond.constantLong y.cls index v).before a0 Z = true) (hp : pc + 3 = pc') (kt : Go l Z R y bs ml ret n0 Q h k n pc' L (.long v :: St)) : Go l Z R y bs ml ret n0 Q h k n pc L St := by
  subst hp
  intro p e s m args below meth c T locs C X N eT
  exact (kt p e s m args below meth c T locs C X N eT).thru (X.ldc2Long C.1 C.2.2.2.1 (mvT C.2.2.2.2.2.2.2 w) (g := mkF m pc L St) rfl (hb C.2.1 hd))
theorem getF {R0 O nm d host : String} {index : Nat} {a : Addr} {v : Value} (hd : decode bs pc = .ok (.getfield index, 3)) (w : (Cond.fieldLink y.cls index R0 nm d).before a0 Z = true ∨ (Cond.fieldLinkNest y.cls index R0 nm d host).before a0 Z = true) (via : Via Z R0 O nm d) (F : Fld Z h a O nm d v) (hp : pc + 3 = pc') (kt : Go l Z R y bs ml ret n0 Q h k n pc' L (v :: St)) : Go l Z R y bs ml ret n0 Q h k n pc L (.ref a :: St) := by
  subst hp
  intro p e s m args below meth c T locs C X N eT
  obtain ⟨T', X', e', st⟩ := Jvm.RoadKit.getF X C.1 C.2.2.2.2.2.2.2 C.2.2.2.1 w via eT F (g := mkF m pc L (.ref a :: St)) rfl rfl (hb C.2.1 hd)
  exact (kt p e s m args below meth c T' locs C X' N e').thru st
theorem getS {R0 O nm d host : String} {index : Nat} {v : Value} (hd : decode bs pc = .ok (.getstatic index, 3)) (w : (Cond.fieldLink y.cls index R0 nm d).before a0 Z = true ∨ (Cond.fieldLinkNest y.cls index R0 nm d host).before a0 Z = true) (via : Via Z R0 O nm d) (F : Sta Z h O nm d v) (hp : pc + 3 = pc') (kt : Go l Z R y bs ml ret n0 Q h k n pc' L (v :: St)) : Go l Z R y bs ml ret n0 Q h k n pc L St := by
  subst hp
  intro p e s m args below meth c T locs C X N eT
  obtain ⟨T', X', e', st⟩ := getS2 X C.1 C.2.2.2.2.2.2.2 C.2.2.2.1 w via eT F (g := mkF m pc L St) rfl (hb C.2.1 hd)
  exact (kt p e s m args below meth c T' locs C X' N e').thru st
theorem putF {R0 O nm d host CC : String} {index kk : Nat} {ty : FieldType} {a : Addr} {v old : Value} (hd : decode bs pc = .ok (.putfield index, 3)) (w : (Cond.fieldLink y.cls index R0 nm d).before a0 Z = true ∨ (Cond.fieldLinkNest y.cls index R0 nm d host).before a0 Z = true) (via : Via Z R0 O nm d) (F : Fld Z h a O nm d old) (E : Exa Z h a CC)
    (Ly : (Cond.lays CC O nm d).before a0 Z = true ∨ ((Cond.laysFinal CC O nm d).before a0 Z = true ∧ y.cls = O ∧ y.name = "<init>")) (wi : (Cond.instantiable CC kk).before a0 Z = true) (hty : parseFieldDescriptor d = some ty) (hn : narrow ty v = v) (hf : fits ty v = true) (g : n0 ≤ a) (hp : pc + 3 = pc')
    (kt : ∀ h', Wr h h' a (Jvm.RoadKit.slotOf Z O nm d) v → Go l Z R y bs ml ret n0 Q h' k n pc' L St) : Go l Z R y bs ml ret n0 Q h k n pc L (v :: .ref a :: St) := by
  subst hp
  intro p e s m args below meth c T locs C X N eT
  obtain ⟨T', h', X', e', W', st⟩ := Jvm.RoadKit.putF X C.1 C.2.2.2.2.2.2.2 C.2.2.2.1 w via eT F E (Ly.imp id fun q => ⟨q.1, q.2.1, C.2.2.2.2.1.trans q.2.2⟩) wi hty hn hf (g := mkF m pc L (v :: .ref a :: St)) rfl rfl (hb C.2.1 hd)
  exact (kt h' W' p e s m args below meth c T' _ C X' (Fr.snoc X' N g) e').thru st
theorem putFN {R0 O nm d CC : String} {index kk : Nat} {ty : FieldType} {a : Addr} {v v' old : Value} (hd : decode bs pc = .ok (.putfield index, 3)) (w : (Cond.fieldLink y.cls index R0 nm d).before a0 Z = true) (via : Via Z R0 O nm d) (F : Fld Z h a O nm d old) (E : Exa Z h a CC)
    (Ly : (Cond.lays CC O nm d).before a0 Z = true ∨ ((Cond.laysFinal CC O nm d).before a0 Z = true ∧ y.cls = O ∧ y.name = "<init>")) (wi : (Cond.instantiable CC kk).before a0 Z = true) (hty : parseFieldDescriptor d = some ty) (hn : narrow ty v = v') (hf : fits ty v' = true) (g : n0 ≤ a) (hp : pc + 3 = pc')
    (kt : ∀ h', Wr h h' a (Jvm.RoadKit.slotOf Z O nm d) v' → Go l Z R y bs ml ret n0 Q h' k n pc' L St) : Go l Z R y bs ml ret n0 Q h k n pc L (v :: .ref a :: St) := by
  subst hp
  intro p e s m args below meth c T locs C X N eT
  obtain ⟨T', h', X', e', W', st⟩ := Jvm.RoadKit.putFN X C.1 C.2.2.2.2.2.2.2 C.2.2.2.1 w via eT F E (Ly.imp id fun q => ⟨q.1, q.2.1, C.2.2.2.2.1.trans q.2.2⟩) wi hty hn hf (g := mkF m pc L (v :: .ref a :: St)) rfl rfl (hb C.2.1 hd)
  exact (kt h' W' p e s m args below meth c T' _ C X' (Fr.snoc X' N g) e').thru st
theorem newO {CC : String} {index nn : Nat} (hd : decode bs pc = .ok (.new index, 3)) (w : (Cond.classLink y.cls index CC).before a0 Z = true) (wi : (Cond.instantiable CC nn).before a0 Z = true) (wz : (Cond.initialized CC).before a0 Z = true) (ek : k + 1 = k') (en : n + nn = n') (hc : k' ≤ R.cells) (hl : n' ≤ R.slots) (hp : pc + 3 = pc')
    (kt : ∀ h' a, a = h.size → Ext h h' → Exa Z h' a CC → (∀ {O nm d : String} {ty : FieldType}, Laid Z a0 CC O nm d → parseFieldDescriptor d = some ty → Fld Z h' a O nm d (defaultValue ty)) → Go l Z R y bs ml ret n0 Q h' k' n' pc' L (.ref a :: St)) : Go l Z R y bs ml ret n0 Q h k n pc L St := by
  subst hp ek en
  intro p e s m args below meth c T locs C X N eT
  obtain ⟨T', h', X', e', E, A, D, -, st⟩ := Jvm.RoadKit.newO X C.1 C.2.2.2.2.2.2.2 C.2.2.2.1 w wi wz eT (g := mkF m pc L St) rfl (hb C.2.1 hd) hc hl
  exact (kt h' _ rfl E A D p e s m args below meth c T' _ C X' N e').thru st
theorem newP {aty : ArrayType} {x : Int32} {cap : Nat} (hd : decode bs pc = .ok (.newarray aty, 2)) (w : (Cond.arrayClass (newarray.typeOf aty)).before a0 Z = true) (hn : ¬ x < 0) (hcap : x.toNatClampNeg ≤ cap) (hb' : cap * 8 ≤ 536870912) (ek : k + 1 = k') (en : n + cap = n') (hc : k' ≤ R.cells) (hl : n' ≤ R.slots) (hp : pc + 2 = pc')
    (kt : ∀ h' cA a, a = h.size → Ext h h' → Arr Z h' a (newA cA (newarray.typeOf aty) x) (newarray.typeOf aty) → Go l Z R y bs ml ret n0 Q h' k' n' pc' L (.ref a :: St)) : Go l Z R y bs ml ret n0 Q h k n pc L (.int x :: St) := by
  subst hp ek en
  intro p e s m args below meth c T locs C X N eT
  obtain ⟨T', h', cA, X', e', E, A, st⟩ := Jvm.RoadKit.newP X C.1 C.2.2.2.2.2.2.2 w eT (g := mkF m pc L (.int x :: St)) rfl (hb C.2.1 hd) rfl hn hcap hb' hc hl
  exact (kt h' cA _ rfl E A p e s m args below meth c T' _ C X' N e').thru st
theorem newR {CC : String} {index : Nat} {x : Int32} {cap : Nat} (hd : decode bs pc = .ok (.anewarray index, 3)) (w1 : (Cond.classLink y.cls index CC).before a0 Z = true) (w2 : (Cond.arrayOver (.object CC)).before a0 Z = true) (hn : ¬ x < 0) (hcap : x.toNatClampNeg ≤ cap) (hb' : cap * 8 ≤ 536870912) (ek : k + 1 = k') (en : n + cap = n') (hc : k' ≤ R.cells) (hl : n' ≤ R.slots) (hp : pc + 3 = pc')
    (kt : ∀ h' cA a, a = h.size → Ext h h' → Arr Z h' a (newA cA (.object CC) x) (.object CC) → Ovr Z cA CC → Go l Z R y bs ml ret n0 Q h' k' n' pc' L (.ref a :: St)) : Go l Z R y bs ml ret n0 Q h k n pc L (.int x :: St) := by
  subst hp ek en
  intro p e s m args below meth c T locs C X N eT
  obtain ⟨T', h', cA, X', e', E, A, O, st⟩ := Jvm.RoadKit.newR X C.1 C.2.2.2.2.2.2.2 C.2.2.2.1 w1 w2 eT (g := mkF m pc L (.int x :: St)) rfl (hb C.2.1 hd) rfl hn hcap hb' hc hl
  exact (kt h' cA _ rfl E A O p e s m args below meth c T' _ C X' N e').thru st
theorem stI {a : Addr} {cl : Cell} {j : Int32} {x : Int32} (hd : decode bs pc = .ok (.iastore, 1)) (A : Arr Z h a cl .int) (hj : ¬ (j < 0 ∨ cl.slots.size ≤ j.toNatClampNeg)) (g : n0 ≤ a) (hp : pc + 1 = pc') (kt : ∀ h', Wr h h' a j.toNatClampNeg (.int x) → Go l Z R y bs ml ret n0 Q h' k n pc' L St) : Go l Z R y bs ml ret n0 Q h k n pc L (.int x :: .int j :: .ref a :: St) := by
  subst hp
  intro p e s m args below meth c T locs C X N eT
  obtain ⟨T', h', X', e', W', st⟩ := Jvm.RoadKit.stI X C.1 C.2.2.2.2.2.2.2 eT A hj (g := mkF m pc L (.int x :: .int j :: .ref a :: St)) rfl rfl (hb C.2.1 hd)
  exact (kt h' W' p e s m args below meth c T' _ C X' (Fr.snoc X' N g) e').thru st
theorem stJ {a : Addr} {cl : Cell} {j : Int32} {x : Int64} (hd : decode bs pc = .ok (.lastore, 1)) (A : Arr Z h a cl .long) (hj : ¬ (j < 0 ∨ cl.slots.size ≤ j.toNatClampNeg)) (g : n0 ≤ a) (hp : pc + 1 = pc') (kt : ∀ h', Wr h h' a j.toNatClampNeg (.long x) → Go l Z R y bs ml ret n0 Q h' k n pc' L St) : Go l Z R y bs ml ret n0 Q h k n pc L (.long x :: .int j :: .ref a :: St) := by
  subst hp
  intro p e s m args below meth c T locs C X N eT
  obtain ⟨T', h', X', e', W', st⟩ := Jvm.RoadKit.stJ X C.1 C.2.2.2.2.2.2.2 eT A hj (g := mkF m pc L (.long x :: .int j :: .ref a :: St)) rfl rfl (hb C.2.1 hd)
  exact (kt h' W' p e s m args below meth c T' _ C X' (Fr.snoc X' N g) e').thru st
theorem stB {a : Addr} {cl : Cell} {j : Int32} {x : Int32} (hd : decode bs pc = .ok (.bastore, 1)) (A : Arr Z h a cl .byte) (hj : ¬ (j < 0 ∨ cl.slots.size ≤ j.toNatClampNeg)) (g : n0 ≤ a) (hp : pc + 1 = pc') (kt : ∀ h', Wr h h' a j.toNatClampNeg (.int (nar .byte x)) → Go l Z R y bs ml ret n0 Q h' k n pc' L St) : Go l Z R y bs ml ret n0 Q h k n pc L (.int x :: .int j :: .ref a :: St) := by
  subst hp
  intro p e s m args below meth c T locs C X N eT
  obtain ⟨T', h', X', e', W', st⟩ := Jvm.RoadKit.stB X C.1 C.2.2.2.2.2.2.2 eT A hj (g := mkF m pc L (.int x :: .int j :: .ref a :: St)) rfl rfl (hb C.2.1 hd)
  exact (kt h' W' p e s m args below meth c T' _ C X' (Fr.snoc X' N g) e').thru st
theorem stC {a : Addr} {cl : Cell} {j : Int32} {x : Int32} (hd : decode bs pc = .ok (.castore, 1)) (A : Arr Z h a cl .char) (hj : ¬ (j < 0 ∨ cl.slots.size ≤ j.toNatClampNeg)) (g : n0 ≤ a) (hp : pc + 1 = pc') (kt : ∀ h', Wr h h' a j.toNatClampNeg (.int (nar .char x)) → Go l Z R y bs ml ret n0 Q h' k n pc' L St) : Go l Z R y bs ml ret n0 Q h k n pc L (.int x :: .int j :: .ref a :: St) := by
  subst hp
  intro p e s m args below meth c T locs C X N eT
  obtain ⟨T', h', X', e', W', st⟩ := Jvm.RoadKit.stC X C.1 C.2.2.2.2.2.2.2 eT A hj (g := mkF m pc L (.int x :: .int j :: .ref a :: St)) rfl rfl (hb C.2.1 hd)
  exact (kt h' W' p e s m args below meth c T' _ C X' (Fr.snoc X' N g) e').thru st
theorem stZ {a : Addr} {cl : Cell} {j : Int32} {x : Int32} (hd : decode bs pc = .ok (.bastore, 1)) (A : Arr Z h a cl .boolean) (hj : ¬ (j < 0 ∨ cl.slots.size ≤ j.toNatClampNeg)) (g : n0 ≤ a) (hp : pc + 1 = pc') (kt : ∀ h', Wr h h' a j.toNatClampNeg (.int (nar .boolean x)) → Go l Z R y bs ml ret n0 Q h' k n pc' L St) : Go l Z R y bs ml ret n0 Q h k n pc L (.int x :: .int j :: .ref a :: St) := by
  subst hp
  intro p e s m args below meth c T locs C X N eT
  obtain ⟨T', h', X', e', W', st⟩ := Jvm.RoadKit.stZ X C.1 C.2.2.2.2.2.2.2 eT A hj (g := mkF m pc L (.int x :: .int j :: .ref a :: St)) rfl rfl (hb C.2.1 hd)
  exact (kt h' W' p e s m args below meth c T' _ C X' (Fr.snoc X' N g) e').thru st
theorem stR {a : Addr} {cl : Cell} {ty : FieldType} {j : Int32} {v : Value} (hd : decode bs pc = .ok (.aastore, 1)) (A : Arr Z h a cl ty) (hj : ¬ (j < 0 ∨ cl.slots.size ≤ j.toNatClampNeg)) (hty : ty.isReference = true) (F : Sto Z h a v) (g : n0 ≤ a) (hp : pc + 1 = pc') (kt : ∀ h', Wr h h' a j.toNatClampNeg v → Go l Z R y bs ml ret n0 Q h' k n pc' L St) : Go l Z R y bs ml ret n0 Q h k n pc L (v :: .int j :: .ref a :: St) := by
  subst hp
  intro p e s m args below meth c T locs C X N eT
  obtain ⟨T', h', X', e', W', st⟩ := Jvm.RoadKit.stR X C.1 C.2.2.2.2.2.2.2 eT A hj hty F (g := mkF m pc L (v :: .int j :: .ref a :: St)) rfl rfl (hb C.2.1 hd)
  exact (kt h' W' p e s m args below meth c T' _ C X' (Fr.snoc X' N g) e').thru st
theorem iaload {a : Addr} {cl : Cell} {j : Int32} {v : Value} (hd : decode bs pc = .ok (.iaload, 1)) (A : Arr Z h a cl .int) (hj : ¬ (j < 0 ∨ cl.slots.size ≤ j.toNatClampNeg)) (hv : cl.slots[j.toNatClampNeg]? = some v) (hp : pc + 1 = pc') (kt : Go l Z R y bs ml ret n0 Q h k n pc' L (v :: St)) : Go l Z R y bs ml ret n0 Q h k n pc L (.int j :: .ref a :: St) := by
  subst hp
  intro p e s m args below meth c T locs C X N eT
  exact (kt p e s m args below meth c T locs C X N eT).thru fun t q => X.iaload C.1 (by rw [eT]; exact A.1) (State.isArrayOf_alike C.2.2.2.2.2.2.2.alike A.2.1) A.2.2 hj hv (g := mkF m pc L (.int j :: .ref a :: St)) rfl rfl (hb C.2.1 hd) _ q
theorem laload {a : Addr} {cl : Cell} {j : Int32} {v : Value} (hd : decode bs pc = .ok (.laload, 1)) (A : Arr Z h a cl .long) (hj : ¬ (j < 0 ∨ cl.slots.size ≤ j.toNatClampNeg)) (hv : cl.slots[j.toNatClampNeg]? = some v) (hp : pc + 1 = pc') (kt : Go l Z R y bs ml ret n0 Q h k n pc' L (v :: St)) : Go l Z R y bs ml ret n0 Q h k n pc L (.int j :: .ref a :: St) := by
  subst hp
  intro p e s m args below meth c T locs C X N eT
  exact (kt p e s m args below meth c T locs C X N eT).thru fun t q => X.laload C.1 (by rw [eT]; exact A.1) (State.isArrayOf_alike C.2.2.2.2.2.2.2.alike A.2.1) A.2.2 hj hv (g := mkF m pc L (.int j :: .ref a :: St)) rfl rfl (hb C.2.1 hd) _ q
theorem caload {a : Addr} {cl : Cell} {j : Int32} {v : Value} (hd : decode bs pc = .ok (.caload, 1)) (A : Arr Z h a cl .char) (hj : ¬ (j < 0 ∨ cl.slots.size ≤ j.toNatClampNeg)) (hv : cl.slots[j.toNatClampNeg]? = some v) (hp : pc + 1 = pc') (kt : Go l Z R y bs ml ret n0 Q h k n pc' L (v :: St)) : Go l Z R y bs ml ret n0 Q h k n pc L (.int j :: .ref a :: St) := by
  subst hp
  intro p e s m args below meth c T locs C X N eT
  exact (kt p e s m args below meth c T locs C X N eT).thru fun t q => X.caload C.1 (by rw [eT]; exact A.1) (State.isArrayOf_alike C.2.2.2.2.2.2.2.alike A.2.1) A.2.2 hj hv (g := mkF m pc L (.int j :: .ref a :: St)) rfl rfl (hb C.2.1 hd) _ q
theorem baload {a : Addr} {cl : Cell} {j : Int32} {v : Value} (hd : decode bs pc = .ok (.baload, 1)) (A : Arr Z h a cl .byte) (hj : ¬ (j < 0 ∨ cl.slots.size ≤ j.toNatClampNeg)) (hv : cl.slots[j.toNatClampNeg]? = some v) (hp : pc + 1 = pc') (kt : Go l Z R y bs ml ret n0 Q h k n pc' L (v :: St)) : Go l Z R y bs ml ret n0 Q h k n pc L (.int j :: .ref a :: St) := by
  subst hp
  intro p e s m args below meth c T locs C X N eT
  exact (kt p e s m args below meth c T locs C X N eT).thru fun t q => X.baloadBytes C.1 (by rw [eT]; exact A.1) (State.isArrayOf_alike C.2.2.2.2.2.2.2.alike A.2.1) A.2.2 hj hv (g := mkF m pc L (.int j :: .ref a :: St)) rfl rfl (hb C.2.1 hd) _ q
theorem aaload {a : Addr} {cl : Cell} {ty : FieldType} {j : Int32} {v : Value} (hd : decode bs pc = .ok (.aaload, 1)) (A : Arr Z h a cl ty) (hty : ty.isReference = true) (hj : ¬ (j < 0 ∨ cl.slots.size ≤ j.toNatClampNeg)) (hv : cl.slots[j.toNatClampNeg]? = some v) (hp : pc + 1 = pc') (kt : Go l Z R y bs ml ret n0 Q h k n pc' L (v :: St)) : Go l Z R y bs ml ret n0 Q h k n pc L (.int j :: .ref a :: St) := by
  subst hp
  intro p e s m args below meth c T locs C X N eT
  exact (kt p e s m args below meth c T locs C X N eT).thru fun t q => X.aaload C.1 (by rw [eT]; exact A.1) (State.isArrayOf_alike C.2.2.2.2.2.2.2.alike A.2.1) hty A.2.2 hj hv (g := mkF m pc L (.int j :: .ref a :: St)) rfl rfl (hb C.2.1 hd) _ q
theorem alen {a : Addr} {cl : Cell} {ty : FieldType} {x : Int32} (hd : decode bs pc = .ok (.arraylength, 1)) (A : Arr Z h a cl ty) (hx : cl.slots.size.toInt32 = x) (hp : pc + 1 = pc') (kt : Go l Z R y bs ml ret n0 Q h k n pc' L (.int x :: St)) : Go l Z R y bs ml ret n0 Q h k n pc L (.ref a :: St) := by
  subst hp hx
  intro p e s m args below meth c T locs C X N eT
  exact (kt p e s m args below meth c T locs C X N eT).thru fun t q => X.arraylength C.1 (by rw [eT]; exact A.1) (State.isArrayOf_alike C.2.2.2.2.2.2.2.alike A.2.1) (g := mkF m pc L (.ref a :: St)) rfl rfl (hb C.2.1 hd) _ q
theorem multi22 {index : Nat} {ty : FieldType} {cn : String} (hd : decode bs pc = .ok (.multianewarray index 2, 4)) (w1 : (Cond.classLink y.cls index cn).before a0 Z = true) (hcn : "[" ++ (FieldType.array ty).toString = cn) (w2 : (Cond.arrayOver (.array ty)).before a0 Z = true) (w3 : (Cond.arrayClass ty).before a0 Z = true) (hcb : componentBytes ty ≤ 8) (hdf : fits ty (defaultValue ty) = true) (hdd : (defaultValue ty).isDefault = true) (ek : k + 3 = k') (en : n + 6 = n') (hc : k' ≤ R.cells) (hl : n' ≤ R.slots) (hp : pc + 4 = pc')
    (kt : ∀ h' cA cI a, a = h.size → h'.size = h.size + 3 → Ext h h' → Arv Z h' a cA (.array ty) (2 : Int32) [.ref (a + 1), .ref (a + 2)] .null → Arv Z h' (a + 1) cI ty (2 : Int32) [defaultValue ty, defaultValue ty] (defaultValue ty) → Arv Z h' (a + 2) cI ty (2 : Int32) [defaultValue ty, defaultValue ty] (defaultValue ty) → Z.vm.findClass (FieldType.array ty).toString = some cI → Go l Z R y bs ml ret n0 Q h' k' n' pc' L (.ref a :: St)) : Go l Z R y bs ml ret n0 Q h k n pc L (.int (2 : Int32) :: .int (2 : Int32) :: St) := by
  subst hp ek en hcn
  intro p e s m args below meth c T locs C X N eT
  have hZ := C.2.2.2.2.2.2.2
  have hc2 : (2 : Int32).toNatClampNeg = 2 := by decide
  obtain ⟨vm₁, cA, cI, hW, hfA, hfC, hO, hI, X', st⟩ := X.multianewarray2F C.1 C.2.2.2.1 (mvT hZ w1) ((Cond.arrayOver_setVmC (args := a0) (s := Z) hZ.alike (.array ty)).trans w2) (mvA hZ w3) (g := mkF m pc L (.int (2 : Int32) :: .int (2 : Int32) :: St)) rfl (hb C.2.1 hd) (n := (2 : Int32)) (k := (2 : Int32)) (rest := St) rfl (by decide) (by decide) (by decide) (by rw [hc2]; omega) (by decide) hdf hdd (by rw [hc2]; omega) (by rw [hc2]; omega)
  rw [hc2] at X' st
  subst eT
  obtain ⟨f1, f2, -, -⟩ := Jvm.Free.Multi.fill_facts (T.setVm vm₁) cA cI 2 2 (defaultValue ty) 2
  obtain ⟨o1, o2, o3⟩ := Jvm.Free.Multi.outerC_facts cA 2 (T.setVm vm₁).heap.size 2
  have hsz : (T.setVm vm₁).heap.size = T.heap.size := rfl
  have al : s.vm.Alike Z.vm := hZ.alike.symm
  have EE : Ext T.heap (Jvm.Free.Multi.fill (T.setVm vm₁) cA cI 2 2 (defaultValue ty) 2).heap := ext_of fun a q => Jvm.Free.Multi.fill_old (T.setVm vm₁) cA cI 2 2 (defaultValue ty) q 2
  have inn : ∀ j, j < 2 → Arv Z (Jvm.Free.Multi.fill (T.setVm vm₁) cA cI 2 2 (defaultValue ty) 2).heap (T.heap.size + 1 + j) cI ty (2 : Int32) [defaultValue ty, defaultValue ty] (defaultValue ty) := fun j hj => by
    have hget := Jvm.Free.Multi.fill_inner (T.setVm vm₁) cA cI 2 2 (defaultValue ty) 2 j hj
    refine ⟨_, ⟨hget, State.isArrayOf_alike al (hI 2 (defaultValue ty)).1, (hI 2 (defaultValue ty)).2⟩, rfl, by simp [Jvm.Free.Multi.innerC, hc2], by decide, fun i hi => ?_, fun i hi => ?_⟩
    · simp only [Jvm.Free.Multi.innerC, Array.size_replicate] at hi ⊢
      match i, hi with
      | 0, _ => rfl
      | 1, _ => rfl
    · simp only [Jvm.Free.Multi.innerC, Array.size_replicate] at hi
      match i, hi with
      | 0, _ => exact hdf
      | 1, _ => exact hdf
  have hZc : Z.vm.findClass (FieldType.array ty).toString = some cI := by rw [← hZ.alike.findClass]; exact hfC
  refine (kt _ cA cI T.heap.size rfl f1 EE ?_ (inn 0 (by decide)) (inn 1 (by decide)) hZc p e s m args below meth c _ _ C X' N rfl).thru st
  refine ⟨_, ⟨f2, State.isArrayOf_alike al (hO 2 _ 2).1, (hO 2 _ 2).2⟩, o1, by rw [o3, hc2], by decide, fun i hi => ?_, fun i hi => ?_⟩
  · rw [o3] at hi
    rw [Jvm.Free.Multi.outerC_slot cA 2 _ 2 i hi, if_pos hi]
    match i, hi with
    | 0, _ => rfl
    | 1, _ => rfl
  · rw [o3] at hi
    match i, hi with
    | 0, _ => rfl
    | 1, _ => rfl
theorem castY {KK : String} {index : Nat} {a : Addr} (hd : decode bs pc = .ok (.checkcast index, 3)) (w : (Cond.classLink y.cls index KK).before a0 Z = true) (F : Ins Z h a KK true) (hp : pc + 3 = pc') (kt : Go l Z R y bs ml ret n0 Q h k n pc' L (.ref a :: St)) : Go l Z R y bs ml ret n0 Q h k n pc L (.ref a :: St) := by
  subst hp
  intro p e s m args below meth c T locs C X N eT
  obtain ⟨T', X', e', st⟩ := Jvm.RoadKit.castY X C.1 C.2.2.2.2.2.2.2 C.2.2.2.1 w eT F (g := mkF m pc L (.ref a :: St)) rfl rfl (hb C.2.1 hd)
  exact (kt p e s m args below meth c T' locs C X' N e').thru st
theorem instY {KK : String} {index : Nat} {a : Addr} (hd : decode bs pc = .ok (.instanceof index, 3)) (w : (Cond.classLink y.cls index KK).before a0 Z = true) (F : Ins Z h a KK true) (hp : pc + 3 = pc') (kt : Go l Z R y bs ml ret n0 Q h k n pc' L (.int 1 :: St)) : Go l Z R y bs ml ret n0 Q h k n pc L (.ref a :: St) := by
  subst hp
  intro p e s m args below meth c T locs C X N eT
  obtain ⟨T', X', e', st⟩ := Jvm.RoadKit.instY X C.1 C.2.2.2.2.2.2.2 C.2.2.2.1 w eT F (g := mkF m pc L (.ref a :: St)) rfl rfl (hb C.2.1 hd)
  exact (kt p e s m args below meth c T' locs C X' N e').thru st
theorem instNo {KK CC : String} {index : Nat} {a : Addr} (hd : decode bs pc = .ok (.instanceof index, 3)) (w : (Cond.classLink y.cls index KK).before a0 Z = true) (E : Exa Z h a CC) (F : ∃ c t, Z.vm.findClass CC = some c ∧ Z.vm.findClass KK = some t ∧ Z.vm.assignable c t = false) (hp : pc + 3 = pc') (kt : Go l Z R y bs ml ret n0 Q h k n pc' L (.int 0 :: St)) : Go l Z R y bs ml ret n0 Q h k n pc L (.ref a :: St) := by
  subst hp
  intro p e s m args below meth c T locs C X N eT
  obtain ⟨T', X', e', st⟩ := Jvm.RoadKit.instNo X C.1 C.2.2.2.2.2.2.2 C.2.2.2.1 w eT E F (g := mkF m pc L (.ref a :: St)) rfl rfl (hb C.2.1 hd)
  exact (kt p e s m args below meth c T' locs C X' N e').thru st
theorem instNull {index : Nat} (hd : decode bs pc = .ok (.instanceof index, 3)) (hp : pc + 3 = pc') (kt : Go l Z R y bs ml ret n0 Q h k n pc' L (.int 0 :: St)) : Go l Z R y bs ml ret n0 Q h k n pc L (.null :: St) := by
  subst hp
  intro p e s m args below meth c T locs C X N eT
  exact (kt p e s m args below meth c T locs C X N eT).thru (X.instanceofNull C.1 (g := mkF m pc L (.null :: St)) rfl rfl (hb C.2.1 hd))
theorem castNull {index : Nat} (hd : decode bs pc = .ok (.checkcast index, 3)) (hp : pc + 3 = pc') (kt : Go l Z R y bs ml ret n0 Q h k n pc' L (.null :: St)) : Go l Z R y bs ml ret n0 Q h k n pc L (.null :: St) := by
  subst hp
  intro p e s m args below meth c T locs C X N eT
  exact (kt p e s m args below meth c T locs C X N eT).thru (X.checkcastNull C.1 (g := mkF m pc L (.null :: St)) rfl rfl (hb C.2.1 hd))
theorem initO {index : Nat} {a : Addr} {W : Nat} (hd : decode bs pc = .ok (.invokespecial index, 3)) (w1 : (Cond.methodLink y.cls index Lib.objectInit).before a0 Z = true) (w2 : (Cond.instanceMethod Lib.objectInit).before a0 Z = true) (w3 : (Cond.code Lib.objectInit ⟨#[0xb1]⟩ 1 none).before a0 Z = true) (hsz : L.size = ml) (hf : 1 ≤ R.frames) (hW : (St.map fun v => v.category).sum ≤ W) (hl : W + 12 ≤ R.locals) (hp : pc + 3 = pc') (kt : Go l Z R y bs ml ret n0 Q h k n pc' L St) : Go l Z R y bs ml ret n0 Q h k n pc L (.ref a :: St) := by
  subst hp
  intro p e s m args below meth c T locs C X N eT
  obtain ⟨T', X', e', st⟩ := Jvm.RoadKit.initO X C.1 C.2.2.2.2.2.2.2 C.2.2.2.1 w1 w2 w3 eT (g := mkF m pc L (.ref a :: St)) rfl (by rw [C.2.2.1]; exact hsz) rfl (hb C.2.1 hd) hf (W := W) (by show 2 * 0 + _ ≤ _; omega) hl
  exact (kt p e s m args below meth c T' locs C X' N e').thru st
theorem callS {z : MethodName} {bz : ByteArray} {mz : Nat} {rz : Option FieldType} {rm : Room} {as' : Array Value} {Q' : Option Value → Heap → Prop} {W : Nat} {argsL rest : List Value} {ps : List FieldType} {rt : Option FieldType} {index : Nat} (hd : decode bs pc = .ok (.invokestatic index, 3)) (w1 : (Cond.methodLink y.cls index z).before a0 Z = true) (w2 : (Cond.static z).before a0 Z = true) (w3 : (Cond.initialized z.cls).before a0 Z = true) (w4 : (Cond.code z bz mz rz).before a0 Z = true) (hy : z.cls ≠ "java/lang/invoke/MethodHandle" ∧ z.cls ≠ "java/lang/invoke/VarHandle")
    (con : Con l Z rm z bz mz rz n0 as' h Q') (hf : rm.frames + 1 ≤ R.frames) (hl : W + (mz + 11) + rm.locals ≤ R.locals) (ek : k + rm.cells = k') (en : n + rm.slots = n') (hc : k' ≤ R.cells) (hn : n' ≤ R.slots) (hsz : L.size = ml) (pd : parseMethodDescriptor z.desc = some ⟨ps, rt⟩) (hlen : argsL.length = ps.length) (hst : St = argsL.reverse ++ rest) (has : as' = argsL.toArray) (hW : (rest.map fun v => v.category).sum ≤ W) (hp : pc + 3 = pc')
    (kt : ∀ h' v, Q' v h' → Go l Z R y bs ml ret n0 Q h' k' n' pc' L (v.toList ++ rest)) : Go l Z R y bs ml ret n0 Q h k n pc L St := by
  subst hp has ek en
  intro p e s m args below meth c T locs C X N eT
  have hZ := C.2.2.2.2.2.2.2
  obtain ⟨v, _, ⟨T', Lp, kp, np⟩, -, X', ⟨Lc, ⟨hQ, N'⟩, e1, e2, e3⟩, st⟩ := Jvm.LawKit.callS X C.1 (y := z) C.2.2.2.1 (mvT hZ w1) (mvT hZ w2) (mvT hZ w3) (mvT hZ w4) hy (backOf (W := W) (Q := fun v h' L => Q' v h' ∧ Fr n0 L) (con []) hZ w4 w3 hf hl) (g := mkF m pc L St) rfl (by rw [C.2.2.1]; exact hsz) (argsL := argsL) (rest := rest) (lenOf pd hlen) hst (by show 2 * 0 + _ ≤ _; omega) (hb C.2.1 hd) (fun _ _ => ⟨rfl, eT, hc, hn⟩)
  dsimp only [Pt.U, Pt.locs, Pt.cells, Pt.slots] at X' e1 e2 e3 st hQ
  subst e1 e2 e3
  exact (kt T'.heap v hQ p e s m args below meth c T' _ C X' (Fr.app N N') rfl).thru st
theorem callI {z : MethodName} {bz : ByteArray} {mz : Nat} {rm : Room} {as' : Array Value} {Q' : Option Value → Heap → Prop} {W : Nat} {argsL rest : List Value} {ps : List FieldType} {rt : Option FieldType} {index : Nat} {a : Addr} (hd : decode bs pc = .ok (.invokespecial index, 3)) (hi : z.name = "<init>") (w1 : (Cond.methodLink y.cls index z).before a0 Z = true) (w2 : (Cond.instanceMethod z).before a0 Z = true) (w3 : (Cond.initialized z.cls).before a0 Z = true) (w4 : (Cond.code z bz mz none).before a0 Z = true) (hy : z.cls ≠ "java/lang/invoke/MethodHandle" ∧ z.cls ≠ "java/lang/invoke/VarHandle")
    (con : Con l Z rm z bz mz none n0 as' h Q') (hf : rm.frames + 1 ≤ R.frames) (hl : W + (mz + 11) + rm.locals ≤ R.locals) (ek : k + rm.cells = k') (en : n + rm.slots = n') (hc : k' ≤ R.cells) (hn : n' ≤ R.slots) (hsz : L.size = ml) (pd : parseMethodDescriptor z.desc = some ⟨ps, rt⟩) (hlen : argsL.length = ps.length) (hst : St = argsL.reverse ++ .ref a :: rest) (has : as' = (.ref a :: argsL).toArray) (hW : (rest.map fun v => v.category).sum ≤ W) (hp : pc + 3 = pc')
    (kt : ∀ h' v, Q' v h' → Go l Z R y bs ml ret n0 Q h' k' n' pc' L (v.toList ++ rest)) : Go l Z R y bs ml ret n0 Q h k n pc L St := by
  subst hp has ek en
  intro p e s m args below meth c T locs C X N eT
  have hZ := C.2.2.2.2.2.2.2
  obtain ⟨v, _, ⟨T', Lp, kp, np⟩, -, X', ⟨Lc, ⟨hQ, N'⟩, e1, e2, e3⟩, st⟩ := X.specialBack C.1 (y := z) hi C.2.2.2.1 (mvT hZ w1) (mvT hZ w2) (mvT hZ w4) hy (backOf (W := W) (Q := fun v h' L => Q' v h' ∧ Fr n0 L) (con []) hZ w4 w3 hf hl) (g := mkF m pc L St) rfl (by rw [C.2.2.1]; exact hsz) (Steps.refl _) (a := a) (argsL := argsL) (rest := rest) (lenOf pd hlen) hst (by show 2 * 0 + _ ≤ _; omega) (hb C.2.1 hd) (fun _ _ => ⟨rfl, eT, hc, hn⟩)
  dsimp only [Pt.U, Pt.locs, Pt.cells, Pt.slots] at X' e1 e2 e3 st hQ
  subst e1 e2 e3
  exact (kt T'.heap v hQ p e s m args below meth c T' _ C X' (Fr.app N N') rfl).thru fun t q => st.trans q
theorem callV {z : MethodName} {bz : ByteArray} {mz : Nat} {rz : Option FieldType} {rm : Room} {as' : Array Value} {Q' : Option Value → Heap → Prop} {W : Nat} {argsL rest : List Value} {ps : List FieldType} {rt : Option FieldType} {index : Nat} {CC : String} {a : Addr} (hd : decode bs pc = .ok (.invokevirtual index, 3)) (w1 : (Cond.methodLink y.cls index z).before a0 Z = true) (w2 : (Cond.declares z).before a0 Z = true) (ws : (Cond.selects CC z z).before a0 Z = true) (wi : (Cond.instanceMethod z).before a0 Z = true) (w3 : (Cond.initialized z.cls).before a0 Z = true) (w4 : (Cond.code z bz mz rz).before a0 Z = true) (hy : z.cls ≠ "java/lang/invoke/MethodHandle" ∧ z.cls ≠ "java/lang/invoke/VarHandle") (E : Exa Z h a CC)
    (con : Con l Z rm z bz mz rz n0 as' h Q') (hf : rm.frames + 1 ≤ R.frames) (hl : W + (mz + 11) + rm.locals ≤ R.locals) (ek : k + rm.cells = k') (en : n + rm.slots = n') (hc : k' ≤ R.cells) (hn : n' ≤ R.slots) (hsz : L.size = ml) (pd : parseMethodDescriptor z.desc = some ⟨ps, rt⟩) (hlen : argsL.length = ps.length) (hst : St = argsL.reverse ++ .ref a :: rest) (has : as' = (.ref a :: argsL).toArray) (hW : (rest.map fun v => v.category).sum ≤ W) (hp : pc + 3 = pc')
    (kt : ∀ h' v, Q' v h' → Go l Z R y bs ml ret n0 Q h' k' n' pc' L (v.toList ++ rest)) : Go l Z R y bs ml ret n0 Q h k n pc L St := by
  subst hp has ek en
  intro p e s m args below meth c T locs C X N eT
  have hZ := C.2.2.2.2.2.2.2
  obtain ⟨cq, kq, qa, qb, qc⟩ := isOf hZ eT E
  obtain ⟨v, _, ⟨T', Lp, kp, np⟩, -, X', ⟨Lc, ⟨hQ, N'⟩, e1, e2, e3⟩, st⟩ := X.virtualBack C.1 (y := z) (z := z) C.2.2.2.1 (mvT hZ w1) (mvT hZ w2) (notFace_of_selects (args := #[]) (mvT hZ ws)) (mvT hZ ws) (mvT hZ wi) hy (backOf (W := W) (Q := fun v h' L => Q' v h' ∧ Fr n0 L) (con []) hZ w4 w3 hf hl) qa qc (g := mkF m pc L St) rfl (by rw [C.2.2.1]; exact hsz) (Steps.refl _) (argsL := argsL) (rest := rest) (lenOf pd hlen) hst (by show 2 * 0 + _ ≤ _; omega) (hb C.2.1 hd) (fun _ _ => ⟨rfl, eT, hc, hn⟩)
  dsimp only [Pt.U, Pt.locs, Pt.cells, Pt.slots] at X' e1 e2 e3 st hQ
  subst e1 e2 e3
  exact (kt T'.heap v hQ p e s m args below meth c T' _ C X' (Fr.app N N') rfl).thru fun t q => st.trans q
theorem callVF {z : MethodName} {bz : ByteArray} {mz : Nat} {rz : Option FieldType} {rm : Room} {as' : Array Value} {Q' : Option Value → Heap → Prop} {W : Nat} {argsL rest : List Value} {ps : List FieldType} {rt : Option FieldType} {index cnt : Nat} {x' : MethodName} {CC : String} {a : Addr} (hd : decode bs pc = .ok (.invokeinterface index cnt, 5)) (w1 : (Cond.methodLink y.cls index x').before a0 Z = true) (w2 : (Cond.declares x').before a0 Z = true) (wf : (Cond.interfaceMethod x'.cls x'.cls x'.name x'.desc).before a0 Z = true) (ws : (Cond.selects CC x' z).before a0 Z = true) (wi : (Cond.instanceMethod z).before a0 Z = true) (wp : (Cond.publicMethod z).before a0 Z = true) (wu : (Cond.unhidden CC x'.name x'.desc).before a0 Z = true) (wc : (Cond.castable CC x'.cls).before a0 Z = true) (w3 : (Cond.initialized z.cls).before a0 Z = true) (w4 : (Cond.code z bz mz rz).before a0 Z = true) (hy : x'.cls ≠ "java/lang/invoke/MethodHandle" ∧ x'.cls ≠ "java/lang/invoke/VarHandle") (E : Exa Z h a CC)
    (con : Con l Z rm z bz mz rz n0 as' h Q') (hf : rm.frames + 1 ≤ R.frames) (hl : W + (mz + 11) + rm.locals ≤ R.locals) (ek : k + rm.cells = k') (en : n + rm.slots = n') (hc : k' ≤ R.cells) (hn : n' ≤ R.slots) (hsz : L.size = ml) (pd : parseMethodDescriptor x'.desc = some ⟨ps, rt⟩) (hlen : argsL.length = ps.length) (hst : St = argsL.reverse ++ .ref a :: rest) (has : as' = (.ref a :: argsL).toArray) (hW : (rest.map fun v => v.category).sum ≤ W) (hp : pc + 5 = pc')
    (kt : ∀ h' v, Q' v h' → Go l Z R y bs ml ret n0 Q h' k' n' pc' L (v.toList ++ rest)) : Go l Z R y bs ml ret n0 Q h k n pc L St := by
  subst hp has ek en
  intro p e s m args below meth c T locs C X N eT
  have hZ := C.2.2.2.2.2.2.2
  obtain ⟨cq, kq, qa, qb, qc⟩ := isOf hZ eT E
  obtain ⟨v, _, ⟨T', Lp, kp, np⟩, -, X', ⟨Lc, ⟨hQ, N'⟩, e1, e2, e3⟩, st⟩ := X.interfaceBack C.1 (xi := x') (y := z) C.2.2.2.1 (mvT hZ w1) (mvT hZ w2) (mvT hZ wf (by have g1 := hy.1; have g2 := hy.2; simp [Cond.onTables, Cond.keepsFace, Cond.keeps, Cond.steady, Cond.faceAtom, g1, g2])) (mvT hZ ws) (mvT hZ wi) (mvT hZ wp) (mvT hZ wu) (mvT hZ wc) hy (backOf (W := W) (Q := fun v h' L => Q' v h' ∧ Fr n0 L) (con []) hZ w4 w3 hf hl) qa qb qc (g := mkF m pc L St) rfl (by rw [C.2.2.1]; exact hsz) (Steps.refl _) (argsL := argsL) (rest := rest) (lenOf pd hlen) hst (by show 2 * 0 + _ ≤ _; omega) (hb C.2.1 hd) (fun _ _ => ⟨rfl, eT, hc, hn⟩)
  dsimp only [Pt.U, Pt.locs, Pt.cells, Pt.slots] at X' e1 e2 e3 st hQ
  subst e1 e2 e3
  exact (kt T'.heap v hQ p e s m args below meth c T' _ C X' (Fr.app N N') rfl).thru fun t q => st.trans q
theorem callP {z : MethodName} {bz : ByteArray} {mz : Nat} {rz : Option FieldType} {rm : Room} {as' : Array Value} {Q' : Option Value → Heap → Prop} {W : Nat} {argsL rest : List Value} {ps : List FieldType} {rt : Option FieldType} {index : Nat} {a : Addr} {CC : String} (hd : decode bs pc = .ok (.invokevirtual index, 3)) (w1 : (Cond.methodLink y.cls index z).before a0 Z = true) (wi : (Cond.instanceMethod z).before a0 Z = true) {nn : Nat} (win : (Cond.instantiable z.cls nn).before a0 Z = true) (wp : (Cond.privateMethod z).before a0 Z = true) (w3 : (Cond.initialized z.cls).before a0 Z = true) (w4 : (Cond.code z bz mz rz).before a0 Z = true) (hy : z.cls ≠ "java/lang/invoke/MethodHandle" ∧ z.cls ≠ "java/lang/invoke/VarHandle") (E : Exa Z h a CC)
    (con : Con l Z rm z bz mz rz n0 as' h Q') (hf : rm.frames + 1 ≤ R.frames) (hl : W + (mz + 11) + rm.locals ≤ R.locals) (ek : k + rm.cells = k') (en : n + rm.slots = n') (hc : k' ≤ R.cells) (hn : n' ≤ R.slots) (hsz : L.size = ml) (pd : parseMethodDescriptor z.desc = some ⟨ps, rt⟩) (hlen : argsL.length = ps.length) (hst : St = argsL.reverse ++ .ref a :: rest) (has : as' = (.ref a :: argsL).toArray) (hW : (rest.map fun v => v.category).sum ≤ W) (hp : pc + 3 = pc')
    (kt : ∀ h' v, Q' v h' → Go l Z R y bs ml ret n0 Q h' k' n' pc' L (v.toList ++ rest)) : Go l Z R y bs ml ret n0 Q h k n pc L St := by
  subst hp has ek en
  intro p e s m args below meth c T locs C X N eT
  have hZ := C.2.2.2.2.2.2.2
  have ws : (Cond.selects z.cls z z).before a0 Z = true := by
    obtain ⟨t, kt, g1, g2, g3, g4, -, -⟩ := Cond.instantiable_spec win
    exact selects_self_of_private g1 g2 (Bool.or_eq_false_iff.mp g4).1 (Cond.privateMethod_at wp) wi hy
  obtain ⟨cq, qa, qb⟩ := E.cell
  obtain ⟨v, _, ⟨T', Lp, kp, np⟩, -, X', ⟨Lc, ⟨hQ, N'⟩, e1, e2, e3⟩, st⟩ := X.privateBack C.1 (y := z) C.2.2.2.1 (mvT hZ w1) (mvT hZ wi) (mvT hZ ws) (Cond.privateMethod_at (mvP hZ wp (args := #[]))) (mvT hZ w4) hy (backOf (W := W) (Q := fun v h' L => Q' v h' ∧ Fr n0 L) (con []) hZ w4 w3 hf hl) (g := mkF m pc L St) rfl (by rw [C.2.2.1]; exact hsz) (Steps.refl _) (a := a) (by rw [eT]; exact qa) qb (argsL := argsL) (rest := rest) (lenOf pd hlen) hst (by show 2 * 0 + _ ≤ _; omega) (hb C.2.1 hd) (fun _ _ => ⟨rfl, eT, hc, hn⟩)
  dsimp only [Pt.U, Pt.locs, Pt.cells, Pt.slots] at X' e1 e2 e3 st hQ
  subst e1 e2 e3
  exact (kt T'.heap v hQ p e s m args below meth c T' _ C X' (Fr.app N N') rfl).thru fun t q => st.trans q
theorem callS0 {z : MethodName} {bz : ByteArray} {mz : Nat} {rz : Option FieldType} {rm : Room} {as' : Array Value} {r : Option Value} {St' : List Value} {W : Nat} {argsL rest : List Value} {ps : List FieldType} {rt : Option FieldType} {index : Nat} (hd : decode bs pc = .ok (.invokestatic index, 3)) (w1 : (Cond.methodLink y.cls index z).before a0 Z = true) (w2 : (Cond.static z).before a0 Z = true) (w3 : (Cond.initialized z.cls).before a0 Z = true) (w4 : (Cond.code z bz mz rz).before a0 Z = true) (hy : z.cls ≠ "java/lang/invoke/MethodHandle" ∧ z.cls ≠ "java/lang/invoke/VarHandle")
    (con : Con l Z rm z bz mz rz n0 as' h (Ret r h)) (hf : rm.frames + 1 ≤ R.frames) (hl : W + (mz + 11) + rm.locals ≤ R.locals) (ek : k + rm.cells = k') (en : n + rm.slots = n') (hc : k' ≤ R.cells) (hn : n' ≤ R.slots) (hsz : L.size = ml) (pd : parseMethodDescriptor z.desc = some ⟨ps, rt⟩) (hlen : argsL.length = ps.length) (hst : St = argsL.reverse ++ rest) (has : as' = argsL.toArray) (hW : (rest.map fun v => v.category).sum ≤ W) (hs : r.toList ++ rest = St') (hp : pc + 3 = pc')
    (kt : Go l Z R y bs ml ret n0 Q h k' n' pc' L St') : Go l Z R y bs ml ret n0 Q h k n pc L St := by
  subst hs
  refine callS hd w1 w2 w3 w4 hy con hf hl ek en hc hn hsz pd hlen hst has hW hp ?_
  rintro h' v ⟨rfl, rfl⟩
  exact kt
theorem callI0 {z : MethodName} {bz : ByteArray} {mz : Nat} {rm : Room} {as' : Array Value} {r : Option Value} {St' : List Value} {W : Nat} {argsL rest : List Value} {ps : List FieldType} {rt : Option FieldType} {index : Nat} {a : Addr} (hd : decode bs pc = .ok (.invokespecial index, 3)) (hi : z.name = "<init>") (w1 : (Cond.methodLink y.cls index z).before a0 Z = true) (w2 : (Cond.instanceMethod z).before a0 Z = true) (w3 : (Cond.initialized z.cls).before a0 Z = true) (w4 : (Cond.code z bz mz none).before a0 Z = true) (hy : z.cls ≠ "java/lang/invoke/MethodHandle" ∧ z.cls ≠ "java/lang/invoke/VarHandle")
    (con : Con l Z rm z bz mz none n0 as' h (Ret r h)) (hf : rm.frames + 1 ≤ R.frames) (hl : W + (mz + 11) + rm.locals ≤ R.locals) (ek : k + rm.cells = k') (en : n + rm.slots = n') (hc : k' ≤ R.cells) (hn : n' ≤ R.slots) (hsz : L.size = ml) (pd : parseMethodDescriptor z.desc = some ⟨ps, rt⟩) (hlen : argsL.length = ps.length) (hst : St = argsL.reverse ++ .ref a :: rest) (has : as' = (.ref a :: argsL).toArray) (hW : (rest.map fun v => v.category).sum ≤ W) (hs : r.toList ++ rest = St') (hp : pc + 3 = pc')
    (kt : Go l Z R y bs ml ret n0 Q h k' n' pc' L St') : Go l Z R y bs ml ret n0 Q h k n pc L St := by
  subst hs
  refine callI hd hi w1 w2 w3 w4 hy con hf hl ek en hc hn hsz pd hlen hst has hW hp ?_
  rintro h' v ⟨rfl, rfl⟩
  exact kt
theorem callV0 {z : MethodName} {bz : ByteArray} {mz : Nat} {rz : Option FieldType} {rm : Room} {as' : Array Value} {r : Option Value} {St' : List Value} {W : Nat} {argsL rest : List Value} {ps : List FieldType} {rt : Option FieldType} {index : Nat} {CC : String} {a : Addr} (hd : decode bs pc = .ok (.invokevirtual index, 3)) (w1 : (Cond.methodLink y.cls index z).before a0 Z = true) (w2 : (Cond.declares z).before a0 Z = true) (ws : (Cond.selects CC z z).before a0 Z = true) (wi : (Cond.instanceMethod z).before a0 Z = true) (w3 : (Cond.initialized z.cls).before a0 Z = true) (w4 : (Cond.code z bz mz rz).before a0 Z = true) (hy : z.cls ≠ "java/lang/invoke/MethodHandle" ∧ z.cls ≠ "java/lang/invoke/VarHandle") (E : Exa Z h a CC)
    (con : Con l Z rm z bz mz rz n0 as' h (Ret r h)) (hf : rm.frames + 1 ≤ R.frames) (hl : W + (mz + 11) + rm.locals ≤ R.locals) (ek : k + rm.cells = k') (en : n + rm.slots = n') (hc : k' ≤ R.cells) (hn : n' ≤ R.slots) (hsz : L.size = ml) (pd : parseMethodDescriptor z.desc = some ⟨ps, rt⟩) (hlen : argsL.length = ps.length) (hst : St = argsL.reverse ++ .ref a :: rest) (has : as' = (.ref a :: argsL).toArray) (hW : (rest.map fun v => v.category).sum ≤ W) (hs : r.toList ++ rest = St') (hp : pc + 3 = pc')
    (kt : Go l Z R y bs ml ret n0 Q h k' n' pc' L St') : Go l Z R y bs ml ret n0 Q h k n pc L St := by
  subst hs
  refine callV hd w1 w2 ws wi w3 w4 hy E con hf hl ek en hc hn hsz pd hlen hst has hW hp ?_
  rintro h' v ⟨rfl, rfl⟩
  exact kt
theorem callVF0 {z : MethodName} {bz : ByteArray} {mz : Nat} {rz : Option FieldType} {rm : Room} {as' : Array Value} {r : Option Value} {St' : List Value} {W : Nat} {argsL rest : List Value} {ps : List FieldType} {rt : Option FieldType} {index cnt : Nat} {x' : MethodName} {CC : String} {a : Addr} (hd : decode bs pc = .ok (.invokeinterface index cnt, 5)) (w1 : (Cond.methodLink y.cls index x').before a0 Z = true) (w2 : (Cond.declares x').before a0 Z = true) (wf : (Cond.interfaceMethod x'.cls x'.cls x'.name x'.desc).before a0 Z = true) (ws : (Cond.selects CC x' z).before a0 Z = true) (wi : (Cond.instanceMethod z).before a0 Z = true) (wp : (Cond.publicMethod z).before a0 Z = true) (wu : (Cond.unhidden CC x'.name x'.desc).before a0 Z = true) (wc : (Cond.castable CC x'.cls).before a0 Z = true) (w3 : (Cond.initialized z.cls).before a0 Z = true) (w4 : (Cond.code z bz mz rz).before a0 Z = true) (hy : x'.cls ≠ "java/lang/invoke/MethodHandle" ∧ x'.cls ≠ "java/lang/invoke/VarHandle") (E : Exa Z h a CC)
    (con : Con l Z rm z bz mz rz n0 as' h (Ret r h)) (hf : rm.frames + 1 ≤ R.frames) (hl : W + (mz + 11) + rm.locals ≤ R.locals) (ek : k + rm.cells = k') (en : n + rm.slots = n') (hc : k' ≤ R.cells) (hn : n' ≤ R.slots) (hsz : L.size = ml) (pd : parseMethodDescriptor x'.desc = some ⟨ps, rt⟩) (hlen : argsL.length = ps.length) (hst : St = argsL.reverse ++ .ref a :: rest) (has : as' = (.ref a :: argsL).toArray) (hW : (rest.map fun v => v.category).sum ≤ W) (hs : r.toList ++ rest = St') (hp : pc + 5 = pc')
    (kt : Go l Z R y bs ml ret n0 Q h k' n' pc' L St') : Go l Z R y bs ml ret n0 Q h k n pc L St := by
  subst hs
  refine callVF hd w1 w2 wf ws wi wp wu wc w3 w4 hy E con hf hl ek en hc hn hsz pd hlen hst has hW hp ?_
  rintro h' v ⟨rfl, rfl⟩
  exact kt
end Laws
end Jvm.OwnW
namespace Jvm.Pilot.@@N@@
open Jvm Jvm.ClassFile Sem Op Lib Jvm.Free Jvm.Stand Jvm.LawKit Jvm.RoadKit Bundle Jvm.OwnW Jvm.Pilot.@@N@@.Jvm.D
theorem pd_285bJJ29V : parseMethodDescriptor "([JJ)V" = some ⟨[(.array .long), .long], none⟩ := by decide +kernel
theorem pd_28II29V : parseMethodDescriptor "(II)V" = some ⟨[.int, .int], none⟩ := by decide +kernel
theorem pd_28IIJJLcom2fexample2fparley2fparley2ftreesearch2fSubtreeAssignment3b29V : parseMethodDescriptor "(IIJJLcom/example/parley/parley/treesearch/SubtreeAssignment;)V" = some ⟨[.int, .int, .long, .long, (.object "com/example/parley/parley/treesearch/SubtreeAssignment")], none⟩ := by decide +kernel
theorem pd_28IIJ29V : parseMethodDescriptor "(IIJ)V" = some ⟨[.int, .int, .long], none⟩ := by decide +kernel
theorem pd_28II29J : parseMethodDescriptor "(II)J" = some ⟨[.int, .int], some .long⟩ := by decide +kernel
theorem d3_0 : decode jdk_65_method_101_code 0 = .ok (.iconst 0, 1) := by decide +kernel
theorem d3_1 : decode jdk_65_method_101_code 1 = .ok (.istore_n 3, 1) := by decide +kernel
theorem d3_2 : decode jdk_65_method_101_code 2 = .ok (.aload_n 0, 1) := by decide +kernel
theorem d3_3 : decode jdk_65_method_101_code 3 = .ok (.arraylength, 1) := by decide +kernel
theorem d3_4 : decode jdk_65_method_101_code 4 = .ok (.istore 4, 2) := by decide +kernel
theorem d3_6 : decode jdk_65_method_101_code 6 = .ok (.iload_n 3, 1) := by decide +kernel
theorem d3_7 : decode jdk_65_method_101_code 7 = .ok (.iload 4, 2) := by decide +kernel
theorem d3_9 : decode jdk_65_method_101_code 9 = .ok (.if_icmp .ge 13, 3) := by decide +kernel
theorem d3_12 : decode jdk_65_method_101_code 12 = .ok (.aload_n 0, 1) := by decide +kernel
theorem d3_13 : decode jdk_65_method_101_code 13 = .ok (.iload_n 3, 1) := by decide +kernel
theorem d3_14 : decode jdk_65_method_101_code 14 = .ok (.lload_n 1, 1) := by decide +kernel
theorem d3_15 : decode jdk_65_method_101_code 15 = .ok (.lastore, 1) := by decide +kernel
theorem d3_16 : decode jdk_65_method_101_code 16 = .ok (.iinc 3 1, 3) := by decide +kernel
theorem d3_19 : decode jdk_65_method_101_code 19 = .ok (.goto (-13), 3) := by decide +kernel
theorem d3_22 : decode jdk_65_method_101_code 22 = .ok (.return_, 1) := by decide +kernel
def Q3 (Z : State) (q0 : Addr) (q1 : Int64) (kq : ClassId) (v0 : Int64) (v1 : Int64) (h0 : Heap) (v : Option Value) (h : Heap) : Prop := v = none ∧ Keep h0 h [q0] ∧ Arv Z h q0 kq .long (2 : Int32) [(.long q1), (.long q1)] (.long (0 : Int64))
abbrev GoB3 (l : Launch) (Z : State) (n0 : Nat) (Q : Option Value → Heap → Prop) := Go l Z ({ frames := 0, cells := 0, slots := 0, locals := 0 } : Room) (⟨"java/util/Arrays", "fill", "([JJ)V"⟩ : MethodName) jdk_65_method_101_code 5 none n0 Q
theorem ef3 (m : MethodId) (q0 : Addr) (q1 : Int64) : entryFrame m #[(.ref q0), (.long q1)] 5 = mkF m 0 #[.val (.ref q0), .val (.long q1), .second, .unset, .unset] [] := by first | (simp [entryFrame, mkF, argsToLocals, Value.category]; done) | rfl
set_option maxRecDepth 65536 in
set_option maxHeartbeats 40000000 in
theorem rm3 (l : Launch) (Z : State) (a0 : Array Value) (hw : ∀ d ∈ tables_1, d.before a0 Z = true) (q0 : Addr) (q1 : Int64) (kq : ClassId) (v0 : Int64) (v1 : Int64) (h0 : Heap) (n0 : Nat) (Z0 : n0 ≤ h0.size) (g_q0 : n0 ≤ q0) (V_q0 : Arv Z h0 q0 kq .long (2 : Int32) [(.long v0), (.long v1)] (.long (0 : Int64))) :
    Con l Z ({ frames := 0, cells := 0, slots := 0, locals := 0 } : Room) (⟨"java/util/Arrays", "fill", "([JJ)V"⟩ : MethodName) jdk_65_method_101_code 5 none n0 #[(.ref q0), (.long q1)] h0 (Q3 Z q0 q1 kq v0 v1 h0) := by
  refine OwnW.Con.of (by first | decide +kernel | exact plainFor_of_name (by simp [plainName, overriddenIn])) (fun m => ef3 m q0 q1) ?_
  show GoB3 l Z n0 (Q3 Z q0 q1 kq v0 v1 h0) h0 0 0 0 #[.val (.ref q0), .val (.long q1), .second, .unset, .unset] []
  refine OwnW.iconst (pc' := 1) (v := (0 : Int32)) d3_0 rfl rfl ?_
  refine OwnW.istoreN (pc' := 2) (L' := #[.val (.ref q0), .val (.long q1), .second, .val (.int (0 : Int32)), .unset]) d3_1 rfl rfl ?_
  refine OwnW.aloadN (pc' := 3) d3_2 rfl (rfl) rfl ?_
  obtain ⟨cl1, Ar1, qk1, Sz1, Mn1, Hv1, Gf1⟩ := id V_q0
  refine OwnW.alen (pc' := 4) (x := (2 : Int32)) d3_3 Ar1 (len_of Sz1 Mn1) rfl ?_
  refine OwnW.istore (pc' := 6) (L' := #[.val (.ref q0), .val (.long q1), .second, .val (.int (0 : Int32)), .val (.int (2 : Int32))]) d3_4 rfl rfl ?_
  refine OwnW.iloadN (pc' := 7) d3_6 rfl rfl ?_
  refine OwnW.iload (pc' := 9) d3_7 rfl rfl ?_
  refine OwnW.icmpN (pc' := 12) d3_9 (tlt (by decide)).2.1 rfl ?_
  refine OwnW.aloadN (pc' := 13) d3_12 rfl (rfl) rfl ?_
  refine OwnW.iloadN (pc' := 14) d3_13 rfl rfl ?_
  refine OwnW.lloadN (pc' := 15) d3_14 rfl rfl ?_
  obtain ⟨cl2, Ar2, qk2, Sz2, Mn2, Hv2, Gf2⟩ := id V_q0
  refine OwnW.stJ (pc' := 16) d3_15 Ar2 (inb_of Sz2 ⟨by decide, by decide⟩) g_q0 rfl ?_
  intro h2 W2
  have sz3 : n0 ≤ h2.size := (by rw [W2.size]; exact Z0)
  have V2 : Arv Z h2 q0 kq .long (2 : Int32) [(.long q1), (.long v1)] (.long (0 : Int64)) := Arv.set Ar2 qk2 Sz2 Mn2 Hv2 Gf2 rfl W2 0 rfl (Nat.le_of_ble_eq_true rfl)
  refine OwnW.iinc (pc' := 19) (L' := #[.val (.ref q0), .val (.long q1), .second, .val (.int (1 : Int32)), .val (.int (2 : Int32))]) (d := (1 : Int32)) d3_16 rfl rfl rfl rfl ?_
  refine OwnW.goto (pc' := 6) d3_19 (by decide) (by decide) ?_
  refine OwnW.iloadN (pc' := 7) d3_6 rfl rfl ?_
  refine OwnW.iload (pc' := 9) d3_7 rfl rfl ?_
  refine OwnW.icmpN (pc' := 12) d3_9 (tlt (by decide)).2.1 rfl ?_
  refine OwnW.aloadN (pc' := 13) d3_12 rfl (rfl) rfl ?_
  refine OwnW.iloadN (pc' := 14) d3_13 rfl rfl ?_
  refine OwnW.lloadN (pc' := 15) d3_14 rfl rfl ?_
  obtain ⟨cl4, Ar4, qk4, Sz4, Mn4, Hv4, Gf4⟩ := id V2
  refine OwnW.stJ (pc' := 16) d3_15 Ar4 (inb_of Sz4 ⟨by decide, by decide⟩) g_q0 rfl ?_
  intro h4 W4
  have sz5 : n0 ≤ h4.size := (by rw [W4.size]; exact sz3)
  have V4 : Arv Z h4 q0 kq .long (2 : Int32) [(.long q1), (.long q1)] (.long (0 : Int64)) := Arv.set Ar4 qk4 Sz4 Mn4 Hv4 Gf4 rfl W4 1 rfl (Nat.le_of_ble_eq_true rfl)
  refine OwnW.iinc (pc' := 19) (L' := #[.val (.ref q0), .val (.long q1), .second, .val (.int (2 : Int32)), .val (.int (2 : Int32))]) (d := (1 : Int32)) d3_16 rfl rfl rfl rfl ?_
  refine OwnW.goto (pc' := 6) d3_19 (by decide) (by decide) ?_
  refine OwnW.iloadN (pc' := 7) d3_6 rfl rfl ?_
  refine OwnW.iload (pc' := 9) d3_7 rfl rfl ?_
  refine OwnW.icmpY (pc' := 22) d3_9 (flt (by decide)).2.1 (by decide) (by decide) ?_
  exact OwnW.ret0 d3_22 rfl (by decide) (by decide) (⟨rfl, (((Keep.refl h0 [q0]).wr W2 (Or.inl (List.mem_of_getElem? (i := 0) rfl))).wr W4 (Or.inl (List.mem_of_getElem? (i := 0) rfl))), V4⟩)
theorem d1_0 : decode prog_60_method_1_code 0 = .ok (.aload_n 0, 1) := by decide +kernel
theorem d1_1 : decode prog_60_method_1_code 1 = .ok (.invokespecial 1, 3) := by decide +kernel
theorem d1_4 : decode prog_60_method_1_code 4 = .ok (.aload_n 0, 1) := by decide +kernel
theorem d1_5 : decode prog_60_method_1_code 5 = .ok (.iload_n 1, 1) := by decide +kernel
theorem d1_6 : decode prog_60_method_1_code 6 = .ok (.iload_n 2, 1) := by decide +kernel
theorem d1_7 : decode prog_60_method_1_code 7 = .ok (.multianewarray 7 2, 4) := by decide +kernel
theorem d1_11 : decode prog_60_method_1_code 11 = .ok (.putfield 9, 3) := by decide +kernel
theorem d1_14 : decode prog_60_method_1_code 14 = .ok (.aload_n 0, 1) := by decide +kernel
theorem d1_15 : decode prog_60_method_1_code 15 = .ok (.iload_n 1, 1) := by decide +kernel
theorem d1_16 : decode prog_60_method_1_code 16 = .ok (.iload_n 2, 1) := by decide +kernel
theorem d1_17 : decode prog_60_method_1_code 17 = .ok (.multianewarray 7 2, 4) := by decide +kernel
theorem d1_21 : decode prog_60_method_1_code 21 = .ok (.putfield 14, 3) := by decide +kernel
theorem d1_24 : decode prog_60_method_1_code 24 = .ok (.aload_n 0, 1) := by decide +kernel
theorem d1_25 : decode prog_60_method_1_code 25 = .ok (.iload_n 1, 1) := by decide +kernel
theorem d1_26 : decode prog_60_method_1_code 26 = .ok (.iload_n 2, 1) := by decide +kernel
theorem d1_27 : decode prog_60_method_1_code 27 = .ok (.multianewarray 17 2, 4) := by decide +kernel
theorem d1_31 : decode prog_60_method_1_code 31 = .ok (.putfield 19, 3) := by decide +kernel
theorem d1_34 : decode prog_60_method_1_code 34 = .ok (.aload_n 0, 1) := by decide +kernel
theorem d1_35 : decode prog_60_method_1_code 35 = .ok (.getfield 14, 3) := by decide +kernel
theorem d1_38 : decode prog_60_method_1_code 38 = .ok (.astore_n 3, 1) := by decide +kernel
theorem d1_39 : decode prog_60_method_1_code 39 = .ok (.aload_n 3, 1) := by decide +kernel
theorem d1_40 : decode prog_60_method_1_code 40 = .ok (.arraylength, 1) := by decide +kernel
theorem d1_41 : decode prog_60_method_1_code 41 = .ok (.istore 4, 2) := by decide +kernel
theorem d1_43 : decode prog_60_method_1_code 43 = .ok (.iconst 0, 1) := by decide +kernel
theorem d1_44 : decode prog_60_method_1_code 44 = .ok (.istore 5, 2) := by decide +kernel
theorem d1_46 : decode prog_60_method_1_code 46 = .ok (.iload 5, 2) := by decide +kernel
theorem d1_48 : decode prog_60_method_1_code 48 = .ok (.iload 4, 2) := by decide +kernel
theorem d1_50 : decode prog_60_method_1_code 50 = .ok (.if_icmp .ge 23, 3) := by decide +kernel
theorem d1_53 : decode prog_60_method_1_code 53 = .ok (.aload_n 3, 1) := by decide +kernel
theorem d1_54 : decode prog_60_method_1_code 54 = .ok (.iload 5, 2) := by decide +kernel
theorem d1_56 : decode prog_60_method_1_code 56 = .ok (.aaload, 1) := by decide +kernel
theorem d1_57 : decode prog_60_method_1_code 57 = .ok (.astore 6, 2) := by decide +kernel
theorem d1_59 : decode prog_60_method_1_code 59 = .ok (.aload 6, 2) := by decide +kernel
theorem d1_61 : decode prog_60_method_1_code 61 = .ok (.ldc2_w 24, 3) := by decide +kernel
theorem d1_64 : decode prog_60_method_1_code 64 = .ok (.invokestatic 26, 3) := by decide +kernel
theorem d1_67 : decode prog_60_method_1_code 67 = .ok (.iinc 5 1, 3) := by decide +kernel
theorem d1_70 : decode prog_60_method_1_code 70 = .ok (.goto (-24), 3) := by decide +kernel
theorem d1_73 : decode prog_60_method_1_code 73 = .ok (.return_, 1) := by decide +kernel
def Q1 (Z : State) (o : Addr) (h0 : Heap) (v : Option Value) (h : Heap) : Prop := ∃ (x0 : Addr) (x1 : Addr) (x2 : Addr) (k0 : ClassId) (k1 : ClassId) (k2 : ClassId) (k3 : ClassId) (k4 : ClassId) (k5 : ClassId), v = none ∧ Keep h0 h [o] ∧ h0.size ≤ x0 ∧ h0.size ≤ x1 ∧ h0.size ≤ x2 ∧ x0 ≠ x1 ∧ x0 ≠ x2 ∧ x1 ≠ x2 ∧ @LT.lt Nat _ (x0 + 2) x1 ∧ @LT.lt Nat _ (x1 + 2) x2 ∧ Exa Z h o "com/example/parley/parley/treesearch/ChildBounds" ∧ Fld Z h o "com/example/parley/parley/treesearch/ChildBounds" "lower" "[[J" (.ref x0) ∧ Fld Z h o "com/example/parley/parley/treesearch/ChildBounds" "upper" "[[J" (.ref x1) ∧ Fld Z h o "com/example/parley/parley/treesearch/ChildBounds" "assignments" "[[Lcom/example/parley/parley/treesearch/SubtreeAssignment;" (.ref x2) ∧ Arv Z h x0 k0 (.array .long) (2 : Int32) [(.ref (x0 + 1)), (.ref (x0 + 2))] (.null) ∧ Arv Z h (x0 + 1) k1 .long (2 : Int32) [(.long (0 : Int64)), (.long (0 : Int64))] (.long (0 : Int64)) ∧ Arv Z h (x0 + 2) k1 .long (2 : Int32) [(.long (0 : Int64)), (.long (0 : Int64))] (.long (0 : Int64)) ∧ Arv Z h x1 k2 (.array .long) (2 : Int32) [(.ref (x1 + 1)), (.ref (x1 + 2))] (.null) ∧ Arv Z h (x1 + 1) k3 .long (2 : Int32) [(.long (9223372036854775807 : Int64)), (.long (9223372036854775807 : Int64))] (.long (0 : Int64)) ∧ Arv Z h (x1 + 2) k3 .long (2 : Int32) [(.long (9223372036854775807 : Int64)), (.long (9223372036854775807 : Int64))] (.long (0 : Int64)) ∧ Arv Z h x2 k4 (.array (.object "com/example/parley/parley/treesearch/SubtreeAssignment")) (2 : Int32) [(.ref (x2 + 1)), (.ref (x2 + 2))] (.null) ∧ Arv Z h (x2 + 1) k5 (.object "com/example/parley/parley/treesearch/SubtreeAssignment") (2 : Int32) [.null, .null] (.null) ∧ Arv Z h (x2 + 2) k5 (.object "com/example/parley/parley/treesearch/SubtreeAssignment") (2 : Int32) [.null, .null] (.null) ∧ Ovr Z k5 "com/example/parley/parley/treesearch/SubtreeAssignment"
abbrev GoB1 (l : Launch) (Z : State) (n0 : Nat) (Q : Option Value → Heap → Prop) := Go l Z ({ frames := 1, cells := 9, slots := 18, locals := 16 } : Room) (⟨"com/example/parley/parley/treesearch/ChildBounds", "<init>", "(II)V"⟩ : MethodName) prog_60_method_1_code 7 none n0 Q
theorem ef1 (m : MethodId) (o : Addr) : entryFrame m #[(.ref o), (.int (2 : Int32)), (.int (2 : Int32))] 7 = mkF m 0 #[.val (.ref o), .val (.int (2 : Int32)), .val (.int (2 : Int32)), .unset, .unset, .unset, .unset] [] := by first | (simp [entryFrame, mkF, argsToLocals, Value.category]; done) | rfl
set_option maxRecDepth 65536 in
set_option maxHeartbeats 40000000 in
theorem rm1 (l : Launch) (Z : State) (a0 : Array Value) (hw : ∀ d ∈ tables_1, d.before a0 Z = true) (o : Addr) (h0 : Heap) (n0 : Nat) (Z0 : n0 ≤ h0.size) (g_o : n0 ≤ o) (E_o : Exa Z h0 o "com/example/parley/parley/treesearch/ChildBounds") (F_lower : Fld Z h0 o "com/example/parley/parley/treesearch/ChildBounds" "lower" "[[J" .null) (F_upper : Fld Z h0 o "com/example/parley/parley/treesearch/ChildBounds" "upper" "[[J" .null) (F_assignments : Fld Z h0 o "com/example/parley/parley/treesearch/ChildBounds" "assignments" "[[Lcom/example/parley/parley/treesearch/SubtreeAssignment;" .null) :
    Con l Z ({ frames := 1, cells := 9, slots := 18, locals := 16 } : Room) (⟨"com/example/parley/parley/treesearch/ChildBounds", "<init>", "(II)V"⟩ : MethodName) prog_60_method_1_code 7 none n0 #[(.ref o), (.int (2 : Int32)), (.int (2 : Int32))] h0 (Q1 Z o h0) := by
  refine OwnW.Con.of (by first | decide +kernel | exact plainFor_of_name (by simp [plainName, overriddenIn])) (fun m => ef1 m o) ?_
  show GoB1 l Z n0 (Q1 Z o h0) h0 0 0 0 #[.val (.ref o), .val (.int (2 : Int32)), .val (.int (2 : Int32)), .unset, .unset, .unset, .unset] []
  refine OwnW.aloadN (pc' := 1) d1_0 rfl (rfl) rfl ?_
  refine OwnW.initO (a0 := a0) (pc' := 4) (W := 0) d1_1 (hw _ (List.mem_of_getElem? (i := 6) rfl)) (hw _ (List.mem_of_getElem? (i := 7) rfl)) (hw _ (List.mem_of_getElem? (i := 8) rfl)) rfl (by decide) (Nat.le_of_ble_eq_true rfl) (by decide) rfl ?_
  refine OwnW.aloadN (pc' := 5) d1_4 rfl (rfl) rfl ?_
  refine OwnW.iloadN (pc' := 6) d1_5 rfl rfl ?_
  refine OwnW.iloadN (pc' := 7) d1_6 rfl rfl ?_
  refine OwnW.multi22 (a0 := a0) (pc' := 11) (ty := .long) (k' := 3) (n' := 6) d1_7 (hw _ (List.mem_of_getElem? (i := 9) rfl)) (by first | rfl | decide +kernel) (hw _ (List.mem_of_getElem? (i := 10) rfl)) (hw _ (List.mem_of_getElem? (i := 11) rfl)) (by decide) rfl rfl rfl rfl (by decide) (by decide) rfl ?_
  intro h1 kA1 kI1 ad1 g1 hs1 E1 VA1 VB1 VC1 fc1
  have lt_o_ad1 : @LT.lt Nat _ o ad1 := Nat.lt_of_lt_of_le (E_o).lt (Nat.le_of_eq g1.symm)
  have ge_ad1 : n0 ≤ ad1 := Nat.le_trans Z0 (Nat.le_of_eq g1.symm)
  have sz_ad1 : n0 ≤ h1.size := Nat.le_trans Z0 E1.1
  have F3 := (F_lower.ext E1)
  have F4 := (E_o.ext E1)
  refine OwnW.putF (a0 := a0) (pc' := 14) d1_11 (host := "") (Or.inl (hw _ (List.mem_of_getElem? (i := 12) rfl))) Via.refl F3 F4 (Or.inr ⟨(hw _ (List.mem_of_getElem? (i := 13) rfl)), rfl, rfl⟩) (hw _ (List.mem_of_getElem? (i := 1) rfl)) (ty := (.array (.array .long))) (by decide) rfl rfl g_o rfl ?_
  intro h2 W2
  have sz5 : n0 ≤ h2.size := (by rw [W2.size]; exact sz_ad1)
  have F6 := F3.same W2
  refine OwnW.aloadN (pc' := 15) d1_14 rfl (rfl) rfl ?_
  refine OwnW.iloadN (pc' := 16) d1_15 rfl rfl ?_
  refine OwnW.iloadN (pc' := 17) d1_16 rfl rfl ?_
  refine OwnW.multi22 (a0 := a0) (pc' := 21) (ty := .long) (k' := 6) (n' := 12) d1_17 (hw _ (List.mem_of_getElem? (i := 9) rfl)) (by first | rfl | decide +kernel) (hw _ (List.mem_of_getElem? (i := 10) rfl)) (hw _ (List.mem_of_getElem? (i := 11) rfl)) (by decide) rfl rfl rfl rfl (by decide) (by decide) rfl ?_
  intro h7 kA7 kI7 ad7 g7 hs7 E7 VA7 VB7 VC7 fc7
  have lt_o_ad7 : @LT.lt Nat _ o ad7 := Nat.lt_of_lt_of_le ((F4.wr W2)).lt (Nat.le_of_eq g7.symm)
  have lt_ad1_ad7 : @LT.lt Nat _ ad1 ad7 := Nat.lt_of_lt_of_le ((VA1.other W2 (Ne.symm (Nat.ne_of_lt lt_o_ad1)))).lt (Nat.le_of_eq g7.symm)
  have lt__ad1___1__ad7 : @LT.lt Nat _ (ad1 + 1) ad7 := Nat.lt_of_lt_of_le ((VB1.other W2 (by omega : @Ne Nat (ad1 + 1) o))).lt (Nat.le_of_eq g7.symm)
  have lt__ad1___2__ad7 : @LT.lt Nat _ (ad1 + 2) ad7 := Nat.lt_of_lt_of_le ((VC1.other W2 (by omega : @Ne Nat (ad1 + 2) o))).lt (Nat.le_of_eq g7.symm)
  have ge_ad7 : n0 ≤ ad7 := Nat.le_trans sz5 (Nat.le_of_eq g7.symm)
  have sz_ad7 : n0 ≤ h7.size := Nat.le_trans sz5 E7.1
  have F9 := (((F_upper.ext E1).other W2 (Or.inr (slot_ne (a0 := a0) (C := "com/example/parley/parley/treesearch/ChildBounds") (Or.inr (hw _ (List.mem_of_getElem? (i := 15) rfl))) (Or.inr (hw _ (List.mem_of_getElem? (i := 13) rfl))) (by decide) (t := (.array (.array .long))) (t' := (.array (.array .long))) (by decide) (by decide)))).ext E7)
  have F10 := ((F4.wr W2).ext E7)
  refine OwnW.putF (a0 := a0) (pc' := 24) d1_21 (host := "") (Or.inl (hw _ (List.mem_of_getElem? (i := 14) rfl))) Via.refl F9 F10 (Or.inr ⟨(hw _ (List.mem_of_getElem? (i := 15) rfl)), rfl, rfl⟩) (hw _ (List.mem_of_getElem? (i := 1) rfl)) (ty := (.array (.array .long))) (by decide) rfl rfl g_o rfl ?_
  intro h8 W8
  have sz11 : n0 ≤ h8.size := (by rw [W8.size]; exact sz_ad7)
  have F12 := F9.same W8
  refine OwnW.aloadN (pc' := 25) d1_24 rfl (rfl) rfl ?_
  refine OwnW.iloadN (pc' := 26) d1_25 rfl rfl ?_
  refine OwnW.iloadN (pc' := 27) d1_26 rfl rfl ?_
  refine OwnW.multi22 (a0 := a0) (pc' := 31) (ty := (.object "com/example/parley/parley/treesearch/SubtreeAssignment")) (k' := 9) (n' := 18) d1_27 (hw _ (List.mem_of_getElem? (i := 16) rfl)) (by first | rfl | decide +kernel) (hw _ (List.mem_of_getElem? (i := 17) rfl)) (OwnW.arrClass (hw _ (List.mem_of_getElem? (i := 18) rfl))) (by decide) rfl rfl rfl rfl (by decide) (by decide) rfl ?_
  intro h13 kA13 kI13 ad13 g13 hs13 E13 VA13 VB13 VC13 fc13
  have lt_o_ad13 : @LT.lt Nat _ o ad13 := Nat.lt_of_lt_of_le ((F10.wr W8)).lt (Nat.le_of_eq g13.symm)
  have lt_ad1_ad13 : @LT.lt Nat _ ad1 ad13 := Nat.lt_of_lt_of_le ((((VA1.other W2 (Ne.symm (Nat.ne_of_lt lt_o_ad1))).ext E7).other W8 (Ne.symm (Nat.ne_of_lt lt_o_ad1)))).lt (Nat.le_of_eq g13.symm)
  have lt__ad1___1__ad13 : @LT.lt Nat _ (ad1 + 1) ad13 := Nat.lt_of_lt_of_le ((((VB1.other W2 (by omega : @Ne Nat (ad1 + 1) o)).ext E7).other W8 (by omega : @Ne Nat (ad1 + 1) o))).lt (Nat.le_of_eq g13.symm)
  have lt__ad1___2__ad13 : @LT.lt Nat _ (ad1 + 2) ad13 := Nat.lt_of_lt_of_le ((((VC1.other W2 (by omega : @Ne Nat (ad1 + 2) o)).ext E7).other W8 (by omega : @Ne Nat (ad1 + 2) o))).lt (Nat.le_of_eq g13.symm)
  have lt_ad7_ad13 : @LT.lt Nat _ ad7 ad13 := Nat.lt_of_lt_of_le ((VA7.other W8 (Ne.symm (Nat.ne_of_lt lt_o_ad7)))).lt (Nat.le_of_eq g13.symm)
  have lt__ad7___1__ad13 : @LT.lt Nat _ (ad7 + 1) ad13 := Nat.lt_of_lt_of_le ((VB7.other W8 (by omega : @Ne Nat (ad7 + 1) o))).lt (Nat.le_of_eq g13.symm)
  have lt__ad7___2__ad13 : @LT.lt Nat _ (ad7 + 2) ad13 := Nat.lt_of_lt_of_le ((VC7.other W8 (by omega : @Ne Nat (ad7 + 2) o))).lt (Nat.le_of_eq g13.symm)
  have ge_ad13 : n0 ≤ ad13 := Nat.le_trans sz11 (Nat.le_of_eq g13.symm)
  have sz_ad13 : n0 ≤ h13.size := Nat.le_trans sz11 E13.1
  have O13 : Ovr Z kI13 "com/example/parley/parley/treesearch/SubtreeAssignment" := OwnW.ovrOf (hw _ (List.mem_of_getElem? (i := 18) rfl)) fc13
  have F15 := (((((F_assignments.ext E1).other W2 (Or.inr (slot_ne (a0 := a0) (C := "com/example/parley/parley/treesearch/ChildBounds") (Or.inr (hw _ (List.mem_of_getElem? (i := 20) rfl))) (Or.inr (hw _ (List.mem_of_getElem? (i := 13) rfl))) (by decide) (t := (.array (.array (.object "com/example/parley/parley/treesearch/SubtreeAssignment")))) (t' := (.array (.array .long))) (by decide) (by decide)))).ext E7).other W8 (Or.inr (slot_ne (a0 := a0) (C := "com/example/parley/parley/treesearch/ChildBounds") (Or.inr (hw _ (List.mem_of_getElem? (i := 20) rfl))) (Or.inr (hw _ (List.mem_of_getElem? (i := 15) rfl))) (by decide) (t := (.array (.array (.object "com/example/parley/parley/treesearch/SubtreeAssignment")))) (t' := (.array (.array .long))) (by decide) (by decide)))).ext E13)
  have F16 := ((F10.wr W8).ext E13)
  refine OwnW.putF (a0 := a0) (pc' := 34) d1_31 (host := "") (Or.inl (hw _ (List.mem_of_getElem? (i := 19) rfl))) Via.refl F15 F16 (Or.inr ⟨(hw _ (List.mem_of_getElem? (i := 20) rfl)), rfl, rfl⟩) (hw _ (List.mem_of_getElem? (i := 1) rfl)) (ty := (.array (.array (.object "com/example/parley/parley/treesearch/SubtreeAssignment")))) (by decide) rfl rfl g_o rfl ?_
  intro h14 W14
  have sz17 : n0 ≤ h14.size := (by rw [W14.size]; exact sz_ad13)
  have F18 := F15.same W14
  refine OwnW.aloadN (pc' := 35) d1_34 rfl (rfl) rfl ?_
  have F19 := ((F12.ext E13).other W14 (Or.inr (slot_ne (a0 := a0) (C := "com/example/parley/parley/treesearch/ChildBounds") (Or.inr (hw _ (List.mem_of_getElem? (i := 15) rfl))) (Or.inr (hw _ (List.mem_of_getElem? (i := 20) rfl))) (by decide) (t := (.array (.array .long))) (t' := (.array (.array (.object "com/example/parley/parley/treesearch/SubtreeAssignment")))) (by decide) (by decide))))
  refine OwnW.getF (a0 := a0) (pc' := 38) d1_35 (host := "") (Or.inl (hw _ (List.mem_of_getElem? (i := 14) rfl))) Via.refl F19 rfl ?_
  refine OwnW.astoreN (pc' := 39) (L' := #[.val (.ref o), .val (.int (2 : Int32)), .val (.int (2 : Int32)), .val (.ref ad7), .unset, .unset, .unset]) d1_38 (rfl) rfl rfl ?_
  refine OwnW.aloadN (pc' := 40) d1_39 rfl (rfl) rfl ?_
  have F20 := (((VA7.other W8 (Ne.symm (Nat.ne_of_lt lt_o_ad7))).ext E13).other W14 (Ne.symm (Nat.ne_of_lt lt_o_ad7)))
  obtain ⟨cl21, Ar21, qk21, Sz21, Mn21, Hv21, Gf21⟩ := id F20
  refine OwnW.alen (pc' := 41) (x := (2 : Int32)) d1_40 Ar21 (len_of Sz21 Mn21) rfl ?_
  refine OwnW.istore (pc' := 43) (L' := #[.val (.ref o), .val (.int (2 : Int32)), .val (.int (2 : Int32)), .val (.ref ad7), .val (.int (2 : Int32)), .unset, .unset]) d1_41 rfl rfl ?_
  refine OwnW.iconst (pc' := 44) (v := (0 : Int32)) d1_43 rfl rfl ?_
  refine OwnW.istore (pc' := 46) (L' := #[.val (.ref o), .val (.int (2 : Int32)), .val (.int (2 : Int32)), .val (.ref ad7), .val (.int (2 : Int32)), .val (.int (0 : Int32)), .unset]) d1_44 rfl rfl ?_
  refine OwnW.iload (pc' := 48) d1_46 rfl rfl ?_
  refine OwnW.iload (pc' := 50) d1_48 rfl rfl ?_
  refine OwnW.icmpN (pc' := 53) d1_50 (tlt (by decide)).2.1 rfl ?_
  refine OwnW.aloadN (pc' := 54) d1_53 rfl (rfl) rfl ?_
  refine OwnW.iload (pc' := 56) d1_54 rfl rfl ?_
  obtain ⟨cl22, Ar22, qk22, Sz22, Mn22, Hv22, Gf22⟩ := id F20
  refine OwnW.aaload (pc' := 57) (v := (.ref (ad7 + 1))) d1_56 Ar22 rfl (inb_of Sz22 ⟨by decide, by decide⟩) (Hv22.at (inb_of Sz22 ⟨by decide, by decide⟩) rfl) rfl ?_
  refine OwnW.astore (pc' := 59) (L' := #[.val (.ref o), .val (.int (2 : Int32)), .val (.int (2 : Int32)), .val (.ref ad7), .val (.int (2 : Int32)), .val (.int (0 : Int32)), .val (.ref (ad7 + 1))]) d1_57 (rfl) rfl rfl ?_
  refine OwnW.aload (pc' := 61) d1_59 rfl (rfl) rfl ?_
  refine OwnW.ldc2J (a0 := a0) (pc' := 64) (v := (9223372036854775807 : Int64)) d1_61 (hw _ (List.mem_of_getElem? (i := 21) rfl)) rfl ?_
  have F23 := (((VB7.other W8 (by omega : @Ne Nat (ad7 + 1) o)).ext E13).other W14 (by omega : @Ne Nat (ad7 + 1) o))
  refine OwnW.callS (a0 := a0) (pc' := 67) (W := 0) (k' := 9) (n' := 18) (argsL := [(.ref (ad7 + 1)), (.long (9223372036854775807 : Int64))]) (rest := []) d1_64 (hw _ (List.mem_of_getElem? (i := 22) rfl)) (hw _ (List.mem_of_getElem? (i := 23) rfl)) (hw _ (List.mem_of_getElem? (i := 24) rfl)) (hw _ (List.mem_of_getElem? (i := 25) rfl)) (by decide) (rm3 l Z a0 hw (ad7 + 1) (9223372036854775807 : Int64) kI7 (0 : Int64) (0 : Int64) h14 n0 sz17 (Nat.le_trans ge_ad7 (Nat.le_add_right _ _)) F23) (by decide) (by decide) rfl rfl (by decide) (by decide) rfl pd_285bJJ29V rfl rfl rfl (Nat.le_of_ble_eq_true rfl) rfl ?_
  rintro h24 v24 ⟨rfl, K24, Fc24_0⟩
  have sz25 : n0 ≤ h24.size := Nat.le_trans sz17 K24.1
  show GoB1 l Z n0 (Q1 Z o h0) h24 9 18 67 #[.val (.ref o), .val (.int (2 : Int32)), .val (.int (2 : Int32)), .val (.ref ad7), .val (.int (2 : Int32)), .val (.int (0 : Int32)), .val (.ref (ad7 + 1))] []
  refine OwnW.iinc (pc' := 70) (L' := #[.val (.ref o), .val (.int (2 : Int32)), .val (.int (2 : Int32)), .val (.ref ad7), .val (.int (2 : Int32)), .val (.int (1 : Int32)), .val (.ref (ad7 + 1))]) (d := (1 : Int32)) d1_67 rfl rfl rfl rfl ?_
  refine OwnW.goto (pc' := 46) d1_70 (by decide) (by decide) ?_
  refine OwnW.iload (pc' := 48) d1_46 rfl rfl ?_
  refine OwnW.iload (pc' := 50) d1_48 rfl rfl ?_
  refine OwnW.icmpN (pc' := 53) d1_50 (tlt (by decide)).2.1 rfl ?_
  refine OwnW.aloadN (pc' := 54) d1_53 rfl (rfl) rfl ?_
  refine OwnW.iload (pc' := 56) d1_54 rfl rfl ?_
  have F26 := (F20.keep K24 (ninS (by omega : @Ne Nat ad7 (ad7 + 1)) nin0))
  obtain ⟨cl27, Ar27, qk27, Sz27, Mn27, Hv27, Gf27⟩ := id F26
  refine OwnW.aaload (pc' := 57) (v := (.ref (ad7 + 2))) d1_56 Ar27 rfl (inb_of Sz27 ⟨by decide, by decide⟩) (Hv27.at (inb_of Sz27 ⟨by decide, by decide⟩) rfl) rfl ?_
  refine OwnW.astore (pc' := 59) (L' := #[.val (.ref o), .val (.int (2 : Int32)), .val (.int (2 : Int32)), .val (.ref ad7), .val (.int (2 : Int32)), .val (.int (1 : Int32)), .val (.ref (ad7 + 2))]) d1_57 (rfl) rfl rfl ?_
  refine OwnW.aload (pc' := 61) d1_59 rfl (rfl) rfl ?_
  refine OwnW.ldc2J (a0 := a0) (pc' := 64) (v := (9223372036854775807 : Int64)) d1_61 (hw _ (List.mem_of_getElem? (i := 21) rfl)) rfl ?_
  have F28 := ((((VC7.other W8 (by omega : @Ne Nat (ad7 + 2) o)).ext E13).other W14 (by omega : @Ne Nat (ad7 + 2) o)).keep K24 (ninS (by omega : @Ne Nat (ad7 + 2) (ad7 + 1)) nin0))
  refine OwnW.callS (a0 := a0) (pc' := 67) (W := 0) (k' := 9) (n' := 18) (argsL := [(.ref (ad7 + 2)), (.long (9223372036854775807 : Int64))]) (rest := []) d1_64 (hw _ (List.mem_of_getElem? (i := 22) rfl)) (hw _ (List.mem_of_getElem? (i := 23) rfl)) (hw _ (List.mem_of_getElem? (i := 24) rfl)) (hw _ (List.mem_of_getElem? (i := 25) rfl)) (by decide) (rm3 l Z a0 hw (ad7 + 2) (9223372036854775807 : Int64) kI7 (0 : Int64) (0 : Int64) h24 n0 sz25 (Nat.le_trans ge_ad7 (Nat.le_add_right _ _)) F28) (by decide) (by decide) rfl rfl (by decide) (by decide) rfl pd_285bJJ29V rfl rfl rfl (Nat.le_of_ble_eq_true rfl) rfl ?_
  rintro h29 v29 ⟨rfl, K29, Fc29_0⟩
  have sz30 : n0 ≤ h29.size := Nat.le_trans sz25 K29.1
  show GoB1 l Z n0 (Q1 Z o h0) h29 9 18 67 #[.val (.ref o), .val (.int (2 : Int32)), .val (.int (2 : Int32)), .val (.ref ad7), .val (.int (2 : Int32)), .val (.int (1 : Int32)), .val (.ref (ad7 + 2))] []
  refine OwnW.iinc (pc' := 70) (L' := #[.val (.ref o), .val (.int (2 : Int32)), .val (.int (2 : Int32)), .val (.ref ad7), .val (.int (2 : Int32)), .val (.int (2 : Int32)), .val (.ref (ad7 + 2))]) (d := (1 : Int32)) d1_67 rfl rfl rfl rfl ?_
  refine OwnW.goto (pc' := 46) d1_70 (by decide) (by decide) ?_
  refine OwnW.iload (pc' := 48) d1_46 rfl rfl ?_
  refine OwnW.iload (pc' := 50) d1_48 rfl rfl ?_
  refine OwnW.icmpY (pc' := 73) d1_50 (flt (by decide)).2.1 (by decide) (by decide) ?_
  exact OwnW.ret0 d1_73 rfl (by decide) (by decide) (⟨ad1, ad7, ad13, kA1, kI1, kA7, kI7, kA13, kI13, rfl, (((((((((Keep.refl h0 [o]).ext E1).wr W2 (Or.inl (List.mem_of_getElem? (i := 0) rfl))).ext E7).wr W8 (Or.inl (List.mem_of_getElem? (i := 0) rfl))).ext E13).wr W14 (Or.inl (List.mem_of_getElem? (i := 0) rfl))).trans K24 (allS (Or.inr (Nat.le_trans (Nat.le_trans (Nat.le_trans (Nat.le_trans (Nat.le_refl _) E1.1) (Nat.le_of_eq W2.size.symm)) (Nat.le_of_eq g7.symm)) (Nat.le_add_right _ _))) all0)).trans K29 (allS (Or.inr (Nat.le_trans (Nat.le_trans (Nat.le_trans (Nat.le_trans (Nat.le_refl _) E1.1) (Nat.le_of_eq W2.size.symm)) (Nat.le_of_eq g7.symm)) (Nat.le_add_right _ _))) all0)), (Nat.le_trans (Nat.le_refl _) (Nat.le_of_eq g1.symm)), (Nat.le_trans (Nat.le_trans (Nat.le_trans (Nat.le_refl _) E1.1) (Nat.le_of_eq W2.size.symm)) (Nat.le_of_eq g7.symm)), (Nat.le_trans (Nat.le_trans (Nat.le_trans (Nat.le_trans (Nat.le_trans (Nat.le_refl _) E1.1) (Nat.le_of_eq W2.size.symm)) E7.1) (Nat.le_of_eq W8.size.symm)) (Nat.le_of_eq g13.symm)), (Nat.ne_of_lt lt_ad1_ad7), (Nat.ne_of_lt lt_ad1_ad13), (Nat.ne_of_lt lt_ad7_ad13), (by omega), (by omega), (((F16.wr W14).keep K24).keep K29), ((((((F6.ext E7).other W8 (Or.inr (slot_ne (a0 := a0) (C := "com/example/parley/parley/treesearch/ChildBounds") (Or.inr (hw _ (List.mem_of_getElem? (i := 13) rfl))) (Or.inr (hw _ (List.mem_of_getElem? (i := 15) rfl))) (by decide) (t := (.array (.array .long))) (t' := (.array (.array .long))) (by decide) (by decide)))).ext E13).other W14 (Or.inr (slot_ne (a0 := a0) (C := "com/example/parley/parley/treesearch/ChildBounds") (Or.inr (hw _ (List.mem_of_getElem? (i := 13) rfl))) (Or.inr (hw _ (List.mem_of_getElem? (i := 20) rfl))) (by decide) (t := (.array (.array .long))) (t' := (.array (.array (.object "com/example/parley/parley/treesearch/SubtreeAssignment")))) (by decide) (by decide)))).keep K24 (ninS (by omega : @Ne Nat o (ad7 + 1)) nin0)).keep K29 (ninS (by omega : @Ne Nat o (ad7 + 2)) nin0)), ((F19.keep K24 (ninS (by omega : @Ne Nat o (ad7 + 1)) nin0)).keep K29 (ninS (by omega : @Ne Nat o (ad7 + 2)) nin0)), ((F18.keep K24 (ninS (by omega : @Ne Nat o (ad7 + 1)) nin0)).keep K29 (ninS (by omega : @Ne Nat o (ad7 + 2)) nin0)), (((((((VA1.other W2 (Ne.symm (Nat.ne_of_lt lt_o_ad1))).ext E7).other W8 (Ne.symm (Nat.ne_of_lt lt_o_ad1))).ext E13).other W14 (Ne.symm (Nat.ne_of_lt lt_o_ad1))).keep K24 (ninS (by omega : @Ne Nat ad1 (ad7 + 1)) nin0)).keep K29 (ninS (by omega : @Ne Nat ad1 (ad7 + 2)) nin0)), (((((((VB1.other W2 (by omega : @Ne Nat (ad1 + 1) o)).ext E7).other W8 (by omega : @Ne Nat (ad1 + 1) o)).ext E13).other W14 (by omega : @Ne Nat (ad1 + 1) o)).keep K24 (ninS (by omega : @Ne Nat (ad1 + 1) (ad7 + 1)) nin0)).keep K29 (ninS (by omega : @Ne Nat (ad1 + 1) (ad7 + 2)) nin0)), (((((((VC1.other W2 (by omega : @Ne Nat (ad1 + 2) o)).ext E7).other W8 (by omega : @Ne Nat (ad1 + 2) o)).ext E13).other W14 (by omega : @Ne Nat (ad1 + 2) o)).keep K24 (ninS (by omega : @Ne Nat (ad1 + 2) (ad7 + 1)) nin0)).keep K29 (ninS (by omega : @Ne Nat (ad1 + 2) (ad7 + 2)) nin0)), (F26.keep K29 (ninS (by omega : @Ne Nat ad7 (ad7 + 2)) nin0)), (Fc24_0.keep K29 (ninS (by omega : @Ne Nat (ad7 + 1) (ad7 + 2)) nin0)), Fc29_0, (((VA13.other W14 (Ne.symm (Nat.ne_of_lt lt_o_ad13))).keep K24 (ninS (Ne.symm (Nat.ne_of_lt lt__ad7___1__ad13)) nin0)).keep K29 (ninS (Ne.symm (Nat.ne_of_lt lt__ad7___2__ad13)) nin0)), (((VB13.other W14 (by omega : @Ne Nat (ad13 + 1) o)).keep K24 (ninS (by omega : @Ne Nat (ad13 + 1) (ad7 + 1)) nin0)).keep K29 (ninS (by omega : @Ne Nat (ad13 + 1) (ad7 + 2)) nin0)), (((VC13.other W14 (by omega : @Ne Nat (ad13 + 2) o)).keep K24 (ninS (by omega : @Ne Nat (ad13 + 2) (ad7 + 1)) nin0)).keep K29 (ninS (by omega : @Ne Nat (ad13 + 2) (ad7 + 2)) nin0)), O13⟩)
theorem d4_0 : decode prog_60_method_3_code 0 = .ok (.aload_n 0, 1) := by decide +kernel
theorem d4_1 : decode prog_60_method_3_code 1 = .ok (.getfield 9, 3) := by decide +kernel
theorem d4_4 : decode prog_60_method_3_code 4 = .ok (.iload_n 1, 1) := by decide +kernel
theorem d4_5 : decode prog_60_method_3_code 5 = .ok (.aaload, 1) := by decide +kernel
theorem d4_6 : decode prog_60_method_3_code 6 = .ok (.iload_n 2, 1) := by decide +kernel
theorem d4_7 : decode prog_60_method_3_code 7 = .ok (.lload_n 3, 1) := by decide +kernel
theorem d4_8 : decode prog_60_method_3_code 8 = .ok (.lastore, 1) := by decide +kernel
theorem d4_9 : decode prog_60_method_3_code 9 = .ok (.aload_n 0, 1) := by decide +kernel
theorem d4_10 : decode prog_60_method_3_code 10 = .ok (.getfield 14, 3) := by decide +kernel
theorem d4_13 : decode prog_60_method_3_code 13 = .ok (.iload_n 1, 1) := by decide +kernel
theorem d4_14 : decode prog_60_method_3_code 14 = .ok (.aaload, 1) := by decide +kernel
theorem d4_15 : decode prog_60_method_3_code 15 = .ok (.iload_n 2, 1) := by decide +kernel
theorem d4_16 : decode prog_60_method_3_code 16 = .ok (.lload 5, 2) := by decide +kernel
theorem d4_18 : decode prog_60_method_3_code 18 = .ok (.lastore, 1) := by decide +kernel
theorem d4_19 : decode prog_60_method_3_code 19 = .ok (.aload_n 0, 1) := by decide +kernel
theorem d4_20 : decode prog_60_method_3_code 20 = .ok (.getfield 19, 3) := by decide +kernel
theorem d4_23 : decode prog_60_method_3_code 23 = .ok (.iload_n 1, 1) := by decide +kernel
theorem d4_24 : decode prog_60_method_3_code 24 = .ok (.aaload, 1) := by decide +kernel
theorem d4_25 : decode prog_60_method_3_code 25 = .ok (.iload_n 2, 1) := by decide +kernel
theorem d4_26 : decode prog_60_method_3_code 26 = .ok (.aload 7, 2) := by decide +kernel
theorem d4_28 : decode prog_60_method_3_code 28 = .ok (.aastore, 1) := by decide +kernel
theorem d4_29 : decode prog_60_method_3_code 29 = .ok (.return_, 1) := by decide +kernel
def Q4_00 (Z : State) (o : Addr) (q2 : Int64) (q3 : Int64) (aL : Addr) (L0 : Addr) (L1 : Addr) (kAL : ClassId) (kIL : ClassId) (wL0 : Int64) (wL1 : Int64) (aU : Addr) (U0 : Addr) (U1 : Addr) (kAU : ClassId) (kIU : ClassId) (wU0 : Int64) (wU1 : Int64) (aS : Addr) (S0 : Addr) (S1 : Addr) (kAS : ClassId) (kIS : ClassId) (h0 : Heap) (v : Option Value) (h : Heap) : Prop := v = none ∧ Keep h0 h [L0, U0, S0] ∧ Arv Z h L0 kIL .long (2 : Int32) [(.long q2), (.long wL1)] (.long (0 : Int64)) ∧ Arv Z h U0 kIU .long (2 : Int32) [(.long q3), (.long wU1)] (.long (0 : Int64)) ∧ Arv Z h S0 kIS (.object "com/example/parley/parley/treesearch/SubtreeAssignment") (2 : Int32) [.null, .null] (.null)
abbrev GoB4_00 (l : Launch) (Z : State) (n0 : Nat) (Q : Option Value → Heap → Prop) := Go l Z ({ frames := 0, cells := 0, slots := 0, locals := 0 } : Room) (⟨"com/example/parley/parley/treesearch/ChildBounds", "take", "(IIJJLcom/example/parley/parley/treesearch/SubtreeAssignment;)V"⟩ : MethodName) prog_60_method_3_code 8 none n0 Q
theorem ef4_00 (m : MethodId) (o : Addr) (q2 : Int64) (q3 : Int64) : entryFrame m #[(.ref o), (.int (0 : Int32)), (.int (0 : Int32)), (.long q2), (.long q3), .null] 8 = mkF m 0 #[.val (.ref o), .val (.int (0 : Int32)), .val (.int (0 : Int32)), .val (.long q2), .second, .val (.long q3), .second, .val .null] [] := by first | (simp [entryFrame, mkF, argsToLocals, Value.category]; done) | rfl
set_option maxRecDepth 65536 in
set_option maxHeartbeats 40000000 in
theorem rm4_00 (l : Launch) (Z : State) (a0 : Array Value) (hw : ∀ d ∈ tables_1, d.before a0 Z = true) (o : Addr) (q2 : Int64) (q3 : Int64) (aL : Addr) (L0 : Addr) (L1 : Addr) (kAL : ClassId) (kIL : ClassId) (wL0 : Int64) (wL1 : Int64) (aU : Addr) (U0 : Addr) (U1 : Addr) (kAU : ClassId) (kIU : ClassId) (wU0 : Int64) (wU1 : Int64) (aS : Addr) (S0 : Addr) (S1 : Addr) (kAS : ClassId) (kIS : ClassId) (h0 : Heap) (n0 : Nat) (Z0 : n0 ≤ h0.size) (g_L0 : n0 ≤ L0) (g_U0 : n0 ≤ U0) (g_S0 : n0 ≤ S0) (E_o : Exa Z h0 o "com/example/parley/parley/treesearch/ChildBounds") (F_lower : Fld Z h0 o "com/example/parley/parley/treesearch/ChildBounds" "lower" "[[J" (.ref aL)) (V_aL : Arv Z h0 aL kAL (.array .long) (2 : Int32) [(.ref L0), (.ref L1)] (.null)) (V_L0 : Arv Z h0 L0 kIL .long (2 : Int32) [(.long wL0), (.long wL1)] (.long (0 : Int64))) (F_upper : Fld Z h0 o "com/example/parley/parley/treesearch/ChildBounds" "upper" "[[J" (.ref aU)) (V_aU : Arv Z h0 aU kAU (.array .long) (2 : Int32) [(.ref U0), (.ref U1)] (.null)) (V_U0 : Arv Z h0 U0 kIU .long (2 : Int32) [(.long wU0), (.long wU1)] (.long (0 : Int64))) (F_assignments : Fld Z h0 o "com/example/parley/parley/treesearch/ChildBounds" "assignments" "[[Lcom/example/parley/parley/treesearch/SubtreeAssignment;" (.ref aS)) (V_aS : Arv Z h0 aS kAS (.array (.object "com/example/parley/parley/treesearch/SubtreeAssignment")) (2 : Int32) [(.ref S0), (.ref S1)] (.null)) (V_S0 : Arv Z h0 S0 kIS (.object "com/example/parley/parley/treesearch/SubtreeAssignment") (2 : Int32) [.null, .null] (.null)) (d_L0_aU : L0 ≠ aU) (d_L0_U0 : L0 ≠ U0) (d_L0_aS : L0 ≠ aS) (d_L0_S0 : L0 ≠ S0) (d_L0_o : L0 ≠ o) (d_L0_aL : L0 ≠ aL) (d_U0_aS : U0 ≠ aS) (d_U0_S0 : U0 ≠ S0) (d_U0_o : U0 ≠ o) (d_U0_aL : U0 ≠ aL) (d_U0_aU : U0 ≠ aU) (d_S0_o : S0 ≠ o) (d_S0_aL : S0 ≠ aL) (d_S0_aU : S0 ≠ aU) (d_S0_aS : S0 ≠ aS) :
    Con l Z ({ frames := 0, cells := 0, slots := 0, locals := 0 } : Room) (⟨"com/example/parley/parley/treesearch/ChildBounds", "take", "(IIJJLcom/example/parley/parley/treesearch/SubtreeAssignment;)V"⟩ : MethodName) prog_60_method_3_code 8 none n0 #[(.ref o), (.int (0 : Int32)), (.int (0 : Int32)), (.long q2), (.long q3), .null] h0 (Q4_00 Z o q2 q3 aL L0 L1 kAL kIL wL0 wL1 aU U0 U1 kAU kIU wU0 wU1 aS S0 S1 kAS kIS h0) := by
  refine OwnW.Con.of (by first | decide +kernel | exact plainFor_of_name (by simp [plainName, overriddenIn])) (fun m => ef4_00 m o q2 q3) ?_
  show GoB4_00 l Z n0 (Q4_00 Z o q2 q3 aL L0 L1 kAL kIL wL0 wL1 aU U0 U1 kAU kIU wU0 wU1 aS S0 S1 kAS kIS h0) h0 0 0 0 #[.val (.ref o), .val (.int (0 : Int32)), .val (.int (0 : Int32)), .val (.long q2), .second, .val (.long q3), .second, .val .null] []
  refine OwnW.aloadN (pc' := 1) d4_0 rfl (rfl) rfl ?_
  refine OwnW.getF (a0 := a0) (pc' := 4) d4_1 (host := "") (Or.inl (hw _ (List.mem_of_getElem? (i := 12) rfl))) Via.refl F_lower rfl ?_
  refine OwnW.iloadN (pc' := 5) d4_4 rfl rfl ?_
  obtain ⟨cl1, Ar1, qk1, Sz1, Mn1, Hv1, Gf1⟩ := id V_aL
  refine OwnW.aaload (pc' := 6) (v := (.ref L0)) d4_5 Ar1 rfl (inb_of Sz1 ⟨by decide, by decide⟩) (Hv1.at (inb_of Sz1 ⟨by decide, by decide⟩) rfl) rfl ?_
  refine OwnW.iloadN (pc' := 7) d4_6 rfl rfl ?_
  refine OwnW.lloadN (pc' := 8) d4_7 rfl rfl ?_
  obtain ⟨cl2, Ar2, qk2, Sz2, Mn2, Hv2, Gf2⟩ := id V_L0
  refine OwnW.stJ (pc' := 9) d4_8 Ar2 (inb_of Sz2 ⟨by decide, by decide⟩) g_L0 rfl ?_
  intro h2 W2
  have sz3 : n0 ≤ h2.size := (by rw [W2.size]; exact Z0)
  have V2 : Arv Z h2 L0 kIL .long (2 : Int32) [(.long q2), (.long wL1)] (.long (0 : Int64)) := Arv.set Ar2 qk2 Sz2 Mn2 Hv2 Gf2 rfl W2 0 rfl (Nat.le_of_ble_eq_true rfl)
  refine OwnW.aloadN (pc' := 10) d4_9 rfl (rfl) rfl ?_
  have F4 := (F_upper.other W2 (Or.inl (Ne.symm d_L0_o)))
  refine OwnW.getF (a0 := a0) (pc' := 13) d4_10 (host := "") (Or.inl (hw _ (List.mem_of_getElem? (i := 14) rfl))) Via.refl F4 rfl ?_
  refine OwnW.iloadN (pc' := 14) d4_13 rfl rfl ?_
  have F5 := (V_aU.other W2 (Ne.symm d_L0_aU))
  obtain ⟨cl6, Ar6, qk6, Sz6, Mn6, Hv6, Gf6⟩ := id F5
  refine OwnW.aaload (pc' := 15) (v := (.ref U0)) d4_14 Ar6 rfl (inb_of Sz6 ⟨by decide, by decide⟩) (Hv6.at (inb_of Sz6 ⟨by decide, by decide⟩) rfl) rfl ?_
  refine OwnW.iloadN (pc' := 16) d4_15 rfl rfl ?_
  refine OwnW.lload (pc' := 18) d4_16 rfl rfl ?_
  have F7 := (V_U0.other W2 (Ne.symm d_L0_U0))
  obtain ⟨cl8, Ar8, qk8, Sz8, Mn8, Hv8, Gf8⟩ := id F7
  refine OwnW.stJ (pc' := 19) d4_18 Ar8 (inb_of Sz8 ⟨by decide, by decide⟩) g_U0 rfl ?_
  intro h8 W8
  have sz9 : n0 ≤ h8.size := (by rw [W8.size]; exact sz3)
  have V8 : Arv Z h8 U0 kIU .long (2 : Int32) [(.long q3), (.long wU1)] (.long (0 : Int64)) := Arv.set Ar8 qk8 Sz8 Mn8 Hv8 Gf8 rfl W8 0 rfl (Nat.le_of_ble_eq_true rfl)
  refine OwnW.aloadN (pc' := 20) d4_19 rfl (rfl) rfl ?_
  have F10 := ((F_assignments.other W2 (Or.inl (Ne.symm d_L0_o))).other W8 (Or.inl (Ne.symm d_U0_o)))
  refine OwnW.getF (a0 := a0) (pc' := 23) d4_20 (host := "") (Or.inl (hw _ (List.mem_of_getElem? (i := 19) rfl))) Via.refl F10 rfl ?_
  refine OwnW.iloadN (pc' := 24) d4_23 rfl rfl ?_
  have F11 := ((V_aS.other W2 (Ne.symm d_L0_aS)).other W8 (Ne.symm d_U0_aS))
  obtain ⟨cl12, Ar12, qk12, Sz12, Mn12, Hv12, Gf12⟩ := id F11
  refine OwnW.aaload (pc' := 25) (v := (.ref S0)) d4_24 Ar12 rfl (inb_of Sz12 ⟨by decide, by decide⟩) (Hv12.at (inb_of Sz12 ⟨by decide, by decide⟩) rfl) rfl ?_
  refine OwnW.iloadN (pc' := 26) d4_25 rfl rfl ?_
  refine OwnW.aload (pc' := 28) d4_26 rfl (rfl) rfl ?_
  have F13 := ((V_S0.other W2 (Ne.symm d_L0_S0)).other W8 (Ne.symm d_U0_S0))
  obtain ⟨cl14, Ar14, qk14, Sz14, Mn14, Hv14, Gf14⟩ := id F13
  refine OwnW.stR (pc' := 29) d4_28 Ar14 (inb_of Sz14 ⟨by decide, by decide⟩) rfl (Or.inl rfl) g_S0 rfl ?_
  intro h14 W14
  have sz15 : n0 ≤ h14.size := (by rw [W14.size]; exact sz9)
  have V14 : Arv Z h14 S0 kIS (.object "com/example/parley/parley/treesearch/SubtreeAssignment") (2 : Int32) [.null, .null] (.null) := Arv.set Ar14 qk14 Sz14 Mn14 Hv14 Gf14 rfl W14 0 rfl (Nat.le_of_ble_eq_true rfl)
  exact OwnW.ret0 d4_29 rfl (by decide) (by decide) (⟨rfl, ((((Keep.refl h0 [L0, U0, S0]).wr W2 (Or.inl (List.mem_of_getElem? (i := 0) rfl))).wr W8 (Or.inl (List.mem_of_getElem? (i := 1) rfl))).wr W14 (Or.inl (List.mem_of_getElem? (i := 2) rfl))), ((V2.other W8 d_L0_U0).other W14 d_L0_S0), (V8.other W14 d_U0_S0), V14⟩)
def Q4_01 (Z : State) (o : Addr) (q2 : Int64) (q3 : Int64) (aL : Addr) (L0 : Addr) (L1 : Addr) (kAL : ClassId) (kIL : ClassId) (wL0 : Int64) (wL1 : Int64) (aU : Addr) (U0 : Addr) (U1 : Addr) (kAU : ClassId) (kIU : ClassId) (wU0 : Int64) (wU1 : Int64) (aS : Addr) (S0 : Addr) (S1 : Addr) (kAS : ClassId) (kIS : ClassId) (h0 : Heap) (v : Option Value) (h : Heap) : Prop := v = none ∧ Keep h0 h [L0, U0, S0] ∧ Arv Z h L0 kIL .long (2 : Int32) [(.long wL0), (.long q2)] (.long (0 : Int64)) ∧ Arv Z h U0 kIU .long (2 : Int32) [(.long wU0), (.long q3)] (.long (0 : Int64)) ∧ Arv Z h S0 kIS (.object "com/example/parley/parley/treesearch/SubtreeAssignment") (2 : Int32) [.null, .null] (.null)
abbrev GoB4_01 (l : Launch) (Z : State) (n0 : Nat) (Q : Option Value → Heap → Prop) := Go l Z ({ frames := 0, cells := 0, slots := 0, locals := 0 } : Room) (⟨"com/example/parley/parley/treesearch/ChildBounds", "take", "(IIJJLcom/example/parley/parley/treesearch/SubtreeAssignment;)V"⟩ : MethodName) prog_60_method_3_code 8 none n0 Q
theorem ef4_01 (m : MethodId) (o : Addr) (q2 : Int64) (q3 : Int64) : entryFrame m #[(.ref o), (.int (0 : Int32)), (.int (1 : Int32)), (.long q2), (.long q3), .null] 8 = mkF m 0 #[.val (.ref o), .val (.int (0 : Int32)), .val (.int (1 : Int32)), .val (.long q2), .second, .val (.long q3), .second, .val .null] [] := by first | (simp [entryFrame, mkF, argsToLocals, Value.category]; done) | rfl
set_option maxRecDepth 65536 in
set_option maxHeartbeats 40000000 in
theorem rm4_01 (l : Launch) (Z : State) (a0 : Array Value) (hw : ∀ d ∈ tables_1, d.before a0 Z = true) (o : Addr) (q2 : Int64) (q3 : Int64) (aL : Addr) (L0 : Addr) (L1 : Addr) (kAL : ClassId) (kIL : ClassId) (wL0 : Int64) (wL1 : Int64) (aU : Addr) (U0 : Addr) (U1 : Addr) (kAU : ClassId) (kIU : ClassId) (wU0 : Int64) (wU1 : Int64) (aS : Addr) (S0 : Addr) (S1 : Addr) (kAS : ClassId) (kIS : ClassId) (h0 : Heap) (n0 : Nat) (Z0 : n0 ≤ h0.size) (g_L0 : n0 ≤ L0) (g_U0 : n0 ≤ U0) (g_S0 : n0 ≤ S0) (E_o : Exa Z h0 o "com/example/parley/parley/treesearch/ChildBounds") (F_lower : Fld Z h0 o "com/example/parley/parley/treesearch/ChildBounds" "lower" "[[J" (.ref aL)) (V_aL : Arv Z h0 aL kAL (.array .long) (2 : Int32) [(.ref L0), (.ref L1)] (.null)) (V_L0 : Arv Z h0 L0 kIL .long (2 : Int32) [(.long wL0), (.long wL1)] (.long (0 : Int64))) (F_upper : Fld Z h0 o "com/example/parley/parley/treesearch/ChildBounds" "upper" "[[J" (.ref aU)) (V_aU : Arv Z h0 aU kAU (.array .long) (2 : Int32) [(.ref U0), (.ref U1)] (.null)) (V_U0 : Arv Z h0 U0 kIU .long (2 : Int32) [(.long wU0), (.long wU1)] (.long (0 : Int64))) (F_assignments : Fld Z h0 o "com/example/parley/parley/treesearch/ChildBounds" "assignments" "[[Lcom/example/parley/parley/treesearch/SubtreeAssignment;" (.ref aS)) (V_aS : Arv Z h0 aS kAS (.array (.object "com/example/parley/parley/treesearch/SubtreeAssignment")) (2 : Int32) [(.ref S0), (.ref S1)] (.null)) (V_S0 : Arv Z h0 S0 kIS (.object "com/example/parley/parley/treesearch/SubtreeAssignment") (2 : Int32) [.null, .null] (.null)) (d_L0_aU : L0 ≠ aU) (d_L0_U0 : L0 ≠ U0) (d_L0_aS : L0 ≠ aS) (d_L0_S0 : L0 ≠ S0) (d_L0_o : L0 ≠ o) (d_L0_aL : L0 ≠ aL) (d_U0_aS : U0 ≠ aS) (d_U0_S0 : U0 ≠ S0) (d_U0_o : U0 ≠ o) (d_U0_aL : U0 ≠ aL) (d_U0_aU : U0 ≠ aU) (d_S0_o : S0 ≠ o) (d_S0_aL : S0 ≠ aL) (d_S0_aU : S0 ≠ aU) (d_S0_aS : S0 ≠ aS) :
    Con l Z ({ frames := 0, cells := 0, slots := 0, locals := 0 } : Room) (⟨"com/example/parley/parley/treesearch/ChildBounds", "take", "(IIJJLcom/example/parley/parley/treesearch/SubtreeAssignment;)V"⟩ : MethodName) prog_60_method_3_code 8 none n0 #[(.ref o), (.int (0 : Int32)), (.int (1 : Int32)), (.long q2), (.long q3), .null] h0 (Q4_01 Z o q2 q3 aL L0 L1 kAL kIL wL0 wL1 aU U0 U1 kAU kIU wU0 wU1 aS S0 S1 kAS kIS h0) := by
  refine OwnW.Con.of (by first | decide +kernel | exact plainFor_of_name (by simp [plainName, overriddenIn])) (fun m => ef4_01 m o q2 q3) ?_
  show GoB4_01 l Z n0 (Q4_01 Z o q2 q3 aL L0 L1 kAL kIL wL0 wL1 aU U0 U1 kAU kIU wU0 wU1 aS S0 S1 kAS kIS h0) h0 0 0 0 #[.val (.ref o), .val (.int (0 : Int32)), .val (.int (1 : Int32)), .val (.long q2), .second, .val (.long q3), .second, .val .null] []
  refine OwnW.aloadN (pc' := 1) d4_0 rfl (rfl) rfl ?_
  refine OwnW.getF (a0 := a0) (pc' := 4) d4_1 (host := "") (Or.inl (hw _ (List.mem_of_getElem? (i := 12) rfl))) Via.refl F_lower rfl ?_
  refine OwnW.iloadN (pc' := 5) d4_4 rfl rfl ?_
  obtain ⟨cl1, Ar1, qk1, Sz1, Mn1, Hv1, Gf1⟩ := id V_aL
  refine OwnW.aaload (pc' := 6) (v := (.ref L0)) d4_5 Ar1 rfl (inb_of Sz1 ⟨by decide, by decide⟩) (Hv1.at (inb_of Sz1 ⟨by decide, by decide⟩) rfl) rfl ?_
  refine OwnW.iloadN (pc' := 7) d4_6 rfl rfl ?_
  refine OwnW.lloadN (pc' := 8) d4_7 rfl rfl ?_
  obtain ⟨cl2, Ar2, qk2, Sz2, Mn2, Hv2, Gf2⟩ := id V_L0
  refine OwnW.stJ (pc' := 9) d4_8 Ar2 (inb_of Sz2 ⟨by decide, by decide⟩) g_L0 rfl ?_
  intro h2 W2
  have sz3 : n0 ≤ h2.size := (by rw [W2.size]; exact Z0)
  have V2 : Arv Z h2 L0 kIL .long (2 : Int32) [(.long wL0), (.long q2)] (.long (0 : Int64)) := Arv.set Ar2 qk2 Sz2 Mn2 Hv2 Gf2 rfl W2 1 rfl (Nat.le_of_ble_eq_true rfl)
  refine OwnW.aloadN (pc' := 10) d4_9 rfl (rfl) rfl ?_
  have F4 := (F_upper.other W2 (Or.inl (Ne.symm d_L0_o)))
  refine OwnW.getF (a0 := a0) (pc' := 13) d4_10 (host := "") (Or.inl (hw _ (List.mem_of_getElem? (i := 14) rfl))) Via.refl F4 rfl ?_
  refine OwnW.iloadN (pc' := 14) d4_13 rfl rfl ?_
  have F5 := (V_aU.other W2 (Ne.symm d_L0_aU))
  obtain ⟨cl6, Ar6, qk6, Sz6, Mn6, Hv6, Gf6⟩ := id F5
  refine OwnW.aaload (pc' := 15) (v := (.ref U0)) d4_14 Ar6 rfl (inb_of Sz6 ⟨by decide, by decide⟩) (Hv6.at (inb_of Sz6 ⟨by decide, by decide⟩) rfl) rfl ?_
  refine OwnW.iloadN (pc' := 16) d4_15 rfl rfl ?_
  refine OwnW.lload (pc' := 18) d4_16 rfl rfl ?_
  have F7 := (V_U0.other W2 (Ne.symm d_L0_U0))
  obtain ⟨cl8, Ar8, qk8, Sz8, Mn8, Hv8, Gf8⟩ := id F7
  refine OwnW.stJ (pc' := 19) d4_18 Ar8 (inb_of Sz8 ⟨by decide, by decide⟩) g_U0 rfl ?_
  intro h8 W8
  have sz9 : n0 ≤ h8.size := (by rw [W8.size]; exact sz3)
  have V8 : Arv Z h8 U0 kIU .long (2 : Int32) [(.long wU0), (.long q3)] (.long (0 : Int64)) := Arv.set Ar8 qk8 Sz8 Mn8 Hv8 Gf8 rfl W8 1 rfl (Nat.le_of_ble_eq_true rfl)
  refine OwnW.aloadN (pc' := 20) d4_19 rfl (rfl) rfl ?_
  have F10 := ((F_assignments.other W2 (Or.inl (Ne.symm d_L0_o))).other W8 (Or.inl (Ne.symm d_U0_o)))
  refine OwnW.getF (a0 := a0) (pc' := 23) d4_20 (host := "") (Or.inl (hw _ (List.mem_of_getElem? (i := 19) rfl))) Via.refl F10 rfl ?_
  refine OwnW.iloadN (pc' := 24) d4_23 rfl rfl ?_
  have F11 := ((V_aS.other W2 (Ne.symm d_L0_aS)).other W8 (Ne.symm d_U0_aS))
  obtain ⟨cl12, Ar12, qk12, Sz12, Mn12, Hv12, Gf12⟩ := id F11
  refine OwnW.aaload (pc' := 25) (v := (.ref S0)) d4_24 Ar12 rfl (inb_of Sz12 ⟨by decide, by decide⟩) (Hv12.at (inb_of Sz12 ⟨by decide, by decide⟩) rfl) rfl ?_
  refine OwnW.iloadN (pc' := 26) d4_25 rfl rfl ?_
  refine OwnW.aload (pc' := 28) d4_26 rfl (rfl) rfl ?_
  have F13 := ((V_S0.other W2 (Ne.symm d_L0_S0)).other W8 (Ne.symm d_U0_S0))
  obtain ⟨cl14, Ar14, qk14, Sz14, Mn14, Hv14, Gf14⟩ := id F13
  refine OwnW.stR (pc' := 29) d4_28 Ar14 (inb_of Sz14 ⟨by decide, by decide⟩) rfl (Or.inl rfl) g_S0 rfl ?_
  intro h14 W14
  have sz15 : n0 ≤ h14.size := (by rw [W14.size]; exact sz9)
  have V14 : Arv Z h14 S0 kIS (.object "com/example/parley/parley/treesearch/SubtreeAssignment") (2 : Int32) [.null, .null] (.null) := Arv.set Ar14 qk14 Sz14 Mn14 Hv14 Gf14 rfl W14 1 rfl (Nat.le_of_ble_eq_true rfl)
  exact OwnW.ret0 d4_29 rfl (by decide) (by decide) (⟨rfl, ((((Keep.refl h0 [L0, U0, S0]).wr W2 (Or.inl (List.mem_of_getElem? (i := 0) rfl))).wr W8 (Or.inl (List.mem_of_getElem? (i := 1) rfl))).wr W14 (Or.inl (List.mem_of_getElem? (i := 2) rfl))), ((V2.other W8 d_L0_U0).other W14 d_L0_S0), (V8.other W14 d_U0_S0), V14⟩)
def Q4_10 (Z : State) (o : Addr) (q2 : Int64) (q3 : Int64) (aL : Addr) (L0 : Addr) (L1 : Addr) (kAL : ClassId) (kIL : ClassId) (wL0 : Int64) (wL1 : Int64) (aU : Addr) (U0 : Addr) (U1 : Addr) (kAU : ClassId) (kIU : ClassId) (wU0 : Int64) (wU1 : Int64) (aS : Addr) (S0 : Addr) (S1 : Addr) (kAS : ClassId) (kIS : ClassId) (h0 : Heap) (v : Option Value) (h : Heap) : Prop := v = none ∧ Keep h0 h [L1, U1, S1] ∧ Arv Z h L1 kIL .long (2 : Int32) [(.long q2), (.long wL1)] (.long (0 : Int64)) ∧ Arv Z h U1 kIU .long (2 : Int32) [(.long q3), (.long wU1)] (.long (0 : Int64)) ∧ Arv Z h S1 kIS (.object "com/example/parley/parley/treesearch/SubtreeAssignment") (2 : Int32) [.null, .null] (.null)
abbrev GoB4_10 (l : Launch) (Z : State) (n0 : Nat) (Q : Option Value → Heap → Prop) := Go l Z ({ frames := 0, cells := 0, slots := 0, locals := 0 } : Room) (⟨"com/example/parley/parley/treesearch/ChildBounds", "take", "(IIJJLcom/example/parley/parley/treesearch/SubtreeAssignment;)V"⟩ : MethodName) prog_60_method_3_code 8 none n0 Q
theorem ef4_10 (m : MethodId) (o : Addr) (q2 : Int64) (q3 : Int64) : entryFrame m #[(.ref o), (.int (1 : Int32)), (.int (0 : Int32)), (.long q2), (.long q3), .null] 8 = mkF m 0 #[.val (.ref o), .val (.int (1 : Int32)), .val (.int (0 : Int32)), .val (.long q2), .second, .val (.long q3), .second, .val .null] [] := by first | (simp [entryFrame, mkF, argsToLocals, Value.category]; done) | rfl
set_option maxRecDepth 65536 in
set_option maxHeartbeats 40000000 in
theorem rm4_10 (l : Launch) (Z : State) (a0 : Array Value) (hw : ∀ d ∈ tables_1, d.before a0 Z = true) (o : Addr) (q2 : Int64) (q3 : Int64) (aL : Addr) (L0 : Addr) (L1 : Addr) (kAL : ClassId) (kIL : ClassId) (wL0 : Int64) (wL1 : Int64) (aU : Addr) (U0 : Addr) (U1 : Addr) (kAU : ClassId) (kIU : ClassId) (wU0 : Int64) (wU1 : Int64) (aS : Addr) (S0 : Addr) (S1 : Addr) (kAS : ClassId) (kIS : ClassId) (h0 : Heap) (n0 : Nat) (Z0 : n0 ≤ h0.size) (g_L1 : n0 ≤ L1) (g_U1 : n0 ≤ U1) (g_S1 : n0 ≤ S1) (E_o : Exa Z h0 o "com/example/parley/parley/treesearch/ChildBounds") (F_lower : Fld Z h0 o "com/example/parley/parley/treesearch/ChildBounds" "lower" "[[J" (.ref aL)) (V_aL : Arv Z h0 aL kAL (.array .long) (2 : Int32) [(.ref L0), (.ref L1)] (.null)) (V_L1 : Arv Z h0 L1 kIL .long (2 : Int32) [(.long wL0), (.long wL1)] (.long (0 : Int64))) (F_upper : Fld Z h0 o "com/example/parley/parley/treesearch/ChildBounds" "upper" "[[J" (.ref aU)) (V_aU : Arv Z h0 aU kAU (.array .long) (2 : Int32) [(.ref U0), (.ref U1)] (.null)) (V_U1 : Arv Z h0 U1 kIU .long (2 : Int32) [(.long wU0), (.long wU1)] (.long (0 : Int64))) (F_assignments : Fld Z h0 o "com/example/parley/parley/treesearch/ChildBounds" "assignments" "[[Lcom/example/parley/parley/treesearch/SubtreeAssignment;" (.ref aS)) (V_aS : Arv Z h0 aS kAS (.array (.object "com/example/parley/parley/treesearch/SubtreeAssignment")) (2 : Int32) [(.ref S0), (.ref S1)] (.null)) (V_S1 : Arv Z h0 S1 kIS (.object "com/example/parley/parley/treesearch/SubtreeAssignment") (2 : Int32) [.null, .null] (.null)) (d_L1_aU : L1 ≠ aU) (d_L1_U1 : L1 ≠ U1) (d_L1_aS : L1 ≠ aS) (d_L1_S1 : L1 ≠ S1) (d_L1_o : L1 ≠ o) (d_L1_aL : L1 ≠ aL) (d_U1_aS : U1 ≠ aS) (d_U1_S1 : U1 ≠ S1) (d_U1_o : U1 ≠ o) (d_U1_aL : U1 ≠ aL) (d_U1_aU : U1 ≠ aU) (d_S1_o : S1 ≠ o) (d_S1_aL : S1 ≠ aL) (d_S1_aU : S1 ≠ aU) (d_S1_aS : S1 ≠ aS) :
    Con l Z ({ frames := 0, cells := 0, slots := 0, locals := 0 } : Room) (⟨"com/example/parley/parley/treesearch/ChildBounds", "take", "(IIJJLcom/example/parley/parley/treesearch/SubtreeAssignment;)V"⟩ : MethodName) prog_60_method_3_code 8 none n0 #[(.ref o), (.int (1 : Int32)), (.int (0 : Int32)), (.long q2), (.long q3), .null] h0 (Q4_10 Z o q2 q3 aL L0 L1 kAL kIL wL0 wL1 aU U0 U1 kAU kIU wU0 wU1 aS S0 S1 kAS kIS h0) := by
  refine OwnW.Con.of (by first | decide +kernel | exact plainFor_of_name (by simp [plainName, overriddenIn])) (fun m => ef4_10 m o q2 q3) ?_
  show GoB4_10 l Z n0 (Q4_10 Z o q2 q3 aL L0 L1 kAL kIL wL0 wL1 aU U0 U1 kAU kIU wU0 wU1 aS S0 S1 kAS kIS h0) h0 0 0 0 #[.val (.ref o), .val (.int (1 : Int32)), .val (.int (0 : Int32)), .val (.long q2), .second, .val (.long q3), .second, .val .null] []
  refine OwnW.aloadN (pc' := 1) d4_0 rfl (rfl) rfl ?_
  refine OwnW.getF (a0 := a0) (pc' := 4) d4_1 (host := "") (Or.inl (hw _ (List.mem_of_getElem? (i := 12) rfl))) Via.refl F_lower rfl ?_
  refine OwnW.iloadN (pc' := 5) d4_4 rfl rfl ?_
  obtain ⟨cl1, Ar1, qk1, Sz1, Mn1, Hv1, Gf1⟩ := id V_aL
  refine OwnW.aaload (pc' := 6) (v := (.ref L1)) d4_5 Ar1 rfl (inb_of Sz1 ⟨by decide, by decide⟩) (Hv1.at (inb_of Sz1 ⟨by decide, by decide⟩) rfl) rfl ?_
  refine OwnW.iloadN (pc' := 7) d4_6 rfl rfl ?_
  refine OwnW.lloadN (pc' := 8) d4_7 rfl rfl ?_
  obtain ⟨cl2, Ar2, qk2, Sz2, Mn2, Hv2, Gf2⟩ := id V_L1
  refine OwnW.stJ (pc' := 9) d4_8 Ar2 (inb_of Sz2 ⟨by decide, by decide⟩) g_L1 rfl ?_
  intro h2 W2
  have sz3 : n0 ≤ h2.size := (by rw [W2.size]; exact Z0)
  have V2 : Arv Z h2 L1 kIL .long (2 : Int32) [(.long q2), (.long wL1)] (.long (0 : Int64)) := Arv.set Ar2 qk2 Sz2 Mn2 Hv2 Gf2 rfl W2 0 rfl (Nat.le_of_ble_eq_true rfl)
  refine OwnW.aloadN (pc' := 10) d4_9 rfl (rfl) rfl ?_
  have F4 := (F_upper.other W2 (Or.inl (Ne.symm d_L1_o)))
  refine OwnW.getF (a0 := a0) (pc' := 13) d4_10 (host := "") (Or.inl (hw _ (List.mem_of_getElem? (i := 14) rfl))) Via.refl F4 rfl ?_
  refine OwnW.iloadN (pc' := 14) d4_13 rfl rfl ?_
  have F5 := (V_aU.other W2 (Ne.symm d_L1_aU))
  obtain ⟨cl6, Ar6, qk6, Sz6, Mn6, Hv6, Gf6⟩ := id F5
  refine OwnW.aaload (pc' := 15) (v := (.ref U1)) d4_14 Ar6 rfl (inb_of Sz6 ⟨by decide, by decide⟩) (Hv6.at (inb_of Sz6 ⟨by decide, by decide⟩) rfl) rfl ?_
  refine OwnW.iloadN (pc' := 16) d4_15 rfl rfl ?_
  refine OwnW.lload (pc' := 18) d4_16 rfl rfl ?_
  have F7 := (V_U1.other W2 (Ne.symm d_L1_U1))
  obtain ⟨cl8, Ar8, qk8, Sz8, Mn8, Hv8, Gf8⟩ := id F7
  refine OwnW.stJ (pc' := 19) d4_18 Ar8 (inb_of Sz8 ⟨by decide, by decide⟩) g_U1 rfl ?_
  intro h8 W8
  have sz9 : n0 ≤ h8.size := (by rw [W8.size]; exact sz3)
  have V8 : Arv Z h8 U1 kIU .long (2 : Int32) [(.long q3), (.long wU1)] (.long (0 : Int64)) := Arv.set Ar8 qk8 Sz8 Mn8 Hv8 Gf8 rfl W8 0 rfl (Nat.le_of_ble_eq_true rfl)
  refine OwnW.aloadN (pc' := 20) d4_19 rfl (rfl) rfl ?_
  have F10 := ((F_assignments.other W2 (Or.inl (Ne.symm d_L1_o))).other W8 (Or.inl (Ne.symm d_U1_o)))
  refine OwnW.getF (a0 := a0) (pc' := 23) d4_20 (host := "") (Or.inl (hw _ (List.mem_of_getElem? (i := 19) rfl))) Via.refl F10 rfl ?_
  refine OwnW.iloadN (pc' := 24) d4_23 rfl rfl ?_
  have F11 := ((V_aS.other W2 (Ne.symm d_L1_aS)).other W8 (Ne.symm d_U1_aS))
  obtain ⟨cl12, Ar12, qk12, Sz12, Mn12, Hv12, Gf12⟩ := id F11
  refine OwnW.aaload (pc' := 25) (v := (.ref S1)) d4_24 Ar12 rfl (inb_of Sz12 ⟨by decide, by decide⟩) (Hv12.at (inb_of Sz12 ⟨by decide, by decide⟩) rfl) rfl ?_
  refine OwnW.iloadN (pc' := 26) d4_25 rfl rfl ?_
  refine OwnW.aload (pc' := 28) d4_26 rfl (rfl) rfl ?_
  have F13 := ((V_S1.other W2 (Ne.symm d_L1_S1)).other W8 (Ne.symm d_U1_S1))
  obtain ⟨cl14, Ar14, qk14, Sz14, Mn14, Hv14, Gf14⟩ := id F13
  refine OwnW.stR (pc' := 29) d4_28 Ar14 (inb_of Sz14 ⟨by decide, by decide⟩) rfl (Or.inl rfl) g_S1 rfl ?_
  intro h14 W14
  have sz15 : n0 ≤ h14.size := (by rw [W14.size]; exact sz9)
  have V14 : Arv Z h14 S1 kIS (.object "com/example/parley/parley/treesearch/SubtreeAssignment") (2 : Int32) [.null, .null] (.null) := Arv.set Ar14 qk14 Sz14 Mn14 Hv14 Gf14 rfl W14 0 rfl (Nat.le_of_ble_eq_true rfl)
  exact OwnW.ret0 d4_29 rfl (by decide) (by decide) (⟨rfl, ((((Keep.refl h0 [L1, U1, S1]).wr W2 (Or.inl (List.mem_of_getElem? (i := 0) rfl))).wr W8 (Or.inl (List.mem_of_getElem? (i := 1) rfl))).wr W14 (Or.inl (List.mem_of_getElem? (i := 2) rfl))), ((V2.other W8 d_L1_U1).other W14 d_L1_S1), (V8.other W14 d_U1_S1), V14⟩)
def Q4_11 (Z : State) (o : Addr) (q2 : Int64) (q3 : Int64) (aL : Addr) (L0 : Addr) (L1 : Addr) (kAL : ClassId) (kIL : ClassId) (wL0 : Int64) (wL1 : Int64) (aU : Addr) (U0 : Addr) (U1 : Addr) (kAU : ClassId) (kIU : ClassId) (wU0 : Int64) (wU1 : Int64) (aS : Addr) (S0 : Addr) (S1 : Addr) (kAS : ClassId) (kIS : ClassId) (h0 : Heap) (v : Option Value) (h : Heap) : Prop := v = none ∧ Keep h0 h [L1, U1, S1] ∧ Arv Z h L1 kIL .long (2 : Int32) [(.long wL0), (.long q2)] (.long (0 : Int64)) ∧ Arv Z h U1 kIU .long (2 : Int32) [(.long wU0), (.long q3)] (.long (0 : Int64)) ∧ Arv Z h S1 kIS (.object "com/example/parley/parley/treesearch/SubtreeAssignment") (2 : Int32) [.null, .null] (.null)
abbrev GoB4_11 (l : Launch) (Z : State) (n0 : Nat) (Q : Option Value → Heap → Prop) := Go l Z ({ frames := 0, cells := 0, slots := 0, locals := 0 } : Room) (⟨"com/example/parley/parley/treesearch/ChildBounds", "take", "(IIJJLcom/example/parley/parley/treesearch/SubtreeAssignment;)V"⟩ : MethodName) prog_60_method_3_code 8 none n0 Q
theorem ef4_11 (m : MethodId) (o : Addr) (q2 : Int64) (q3 : Int64) : entryFrame m #[(.ref o), (.int (1 : Int32)), (.int (1 : Int32)), (.long q2), (.long q3), .null] 8 = mkF m 0 #[.val (.ref o), .val (.int (1 : Int32)), .val (.int (1 : Int32)), .val (.long q2), .second, .val (.long q3), .second, .val .null] [] := by first | (simp [entryFrame, mkF, argsToLocals, Value.category]; done) | rfl
set_option maxRecDepth 65536 in
set_option maxHeartbeats 40000000 in
theorem rm4_11 (l : Launch) (Z : State) (a0 : Array Value) (hw : ∀ d ∈ tables_1, d.before a0 Z = true) (o : Addr) (q2 : Int64) (q3 : Int64) (aL : Addr) (L0 : Addr) (L1 : Addr) (kAL : ClassId) (kIL : ClassId) (wL0 : Int64) (wL1 : Int64) (aU : Addr) (U0 : Addr) (U1 : Addr) (kAU : ClassId) (kIU : ClassId) (wU0 : Int64) (wU1 : Int64) (aS : Addr) (S0 : Addr) (S1 : Addr) (kAS : ClassId) (kIS : ClassId) (h0 : Heap) (n0 : Nat) (Z0 : n0 ≤ h0.size) (g_L1 : n0 ≤ L1) (g_U1 : n0 ≤ U1) (g_S1 : n0 ≤ S1) (E_o : Exa Z h0 o "com/example/parley/parley/treesearch/ChildBounds") (F_lower : Fld Z h0 o "com/example/parley/parley/treesearch/ChildBounds" "lower" "[[J" (.ref aL)) (V_aL : Arv Z h0 aL kAL (.array .long) (2 : Int32) [(.ref L0), (.ref L1)] (.null)) (V_L1 : Arv Z h0 L1 kIL .long (2 : Int32) [(.long wL0), (.long wL1)] (.long (0 : Int64))) (F_upper : Fld Z h0 o "com/example/parley/parley/treesearch/ChildBounds" "upper" "[[J" (.ref aU)) (V_aU : Arv Z h0 aU kAU (.array .long) (2 : Int32) [(.ref U0), (.ref U1)] (.null)) (V_U1 : Arv Z h0 U1 kIU .long (2 : Int32) [(.long wU0), (.long wU1)] (.long (0 : Int64))) (F_assignments : Fld Z h0 o "com/example/parley/parley/treesearch/ChildBounds" "assignments" "[[Lcom/example/parley/parley/treesearch/SubtreeAssignment;" (.ref aS)) (V_aS : Arv Z h0 aS kAS (.array (.object "com/example/parley/parley/treesearch/SubtreeAssignment")) (2 : Int32) [(.ref S0), (.ref S1)] (.null)) (V_S1 : Arv Z h0 S1 kIS (.object "com/example/parley/parley/treesearch/SubtreeAssignment") (2 : Int32) [.null, .null] (.null)) (d_L1_aU : L1 ≠ aU) (d_L1_U1 : L1 ≠ U1) (d_L1_aS : L1 ≠ aS) (d_L1_S1 : L1 ≠ S1) (d_L1_o : L1 ≠ o) (d_L1_aL : L1 ≠ aL) (d_U1_aS : U1 ≠ aS) (d_U1_S1 : U1 ≠ S1) (d_U1_o : U1 ≠ o) (d_U1_aL : U1 ≠ aL) (d_U1_aU : U1 ≠ aU) (d_S1_o : S1 ≠ o) (d_S1_aL : S1 ≠ aL) (d_S1_aU : S1 ≠ aU) (d_S1_aS : S1 ≠ aS) :
    Con l Z ({ frames := 0, cells := 0, slots := 0, locals := 0 } : Room) (⟨"com/example/parley/parley/treesearch/ChildBounds", "take", "(IIJJLcom/example/parley/parley/treesearch/SubtreeAssignment;)V"⟩ : MethodName) prog_60_method_3_code 8 none n0 #[(.ref o), (.int (1 : Int32)), (.int (1 : Int32)), (.long q2), (.long q3), .null] h0 (Q4_11 Z o q2 q3 aL L0 L1 kAL kIL wL0 wL1 aU U0 U1 kAU kIU wU0 wU1 aS S0 S1 kAS kIS h0) := by
  refine OwnW.Con.of (by first | decide +kernel | exact plainFor_of_name (by simp [plainName, overriddenIn])) (fun m => ef4_11 m o q2 q3) ?_
  show GoB4_11 l Z n0 (Q4_11 Z o q2 q3 aL L0 L1 kAL kIL wL0 wL1 aU U0 U1 kAU kIU wU0 wU1 aS S0 S1 kAS kIS h0) h0 0 0 0 #[.val (.ref o), .val (.int (1 : Int32)), .val (.int (1 : Int32)), .val (.long q2), .second, .val (.long q3), .second, .val .null] []
  refine OwnW.aloadN (pc' := 1) d4_0 rfl (rfl) rfl ?_
  refine OwnW.getF (a0 := a0) (pc' := 4) d4_1 (host := "") (Or.inl (hw _ (List.mem_of_getElem? (i := 12) rfl))) Via.refl F_lower rfl ?_
  refine OwnW.iloadN (pc' := 5) d4_4 rfl rfl ?_
  obtain ⟨cl1, Ar1, qk1, Sz1, Mn1, Hv1, Gf1⟩ := id V_aL
  refine OwnW.aaload (pc' := 6) (v := (.ref L1)) d4_5 Ar1 rfl (inb_of Sz1 ⟨by decide, by decide⟩) (Hv1.at (inb_of Sz1 ⟨by decide, by decide⟩) rfl) rfl ?_
  refine OwnW.iloadN (pc' := 7) d4_6 rfl rfl ?_
  refine OwnW.lloadN (pc' := 8) d4_7 rfl rfl ?_
  obtain ⟨cl2, Ar2, qk2, Sz2, Mn2, Hv2, Gf2⟩ := id V_L1
  refine OwnW.stJ (pc' := 9) d4_8 Ar2 (inb_of Sz2 ⟨by decide, by decide⟩) g_L1 rfl ?_
  intro h2 W2
  have sz3 : n0 ≤ h2.size := (by rw [W2.size]; exact Z0)
  have V2 : Arv Z h2 L1 kIL .long (2 : Int32) [(.long wL0), (.long q2)] (.long (0 : Int64)) := Arv.set Ar2 qk2 Sz2 Mn2 Hv2 Gf2 rfl W2 1 rfl (Nat.le_of_ble_eq_true rfl)
  refine OwnW.aloadN (pc' := 10) d4_9 rfl (rfl) rfl ?_
  have F4 := (F_upper.other W2 (Or.inl (Ne.symm d_L1_o)))
  refine OwnW.getF (a0 := a0) (pc' := 13) d4_10 (host := "") (Or.inl (hw _ (List.mem_of_getElem? (i := 14) rfl))) Via.refl F4 rfl ?_
  refine OwnW.iloadN (pc' := 14) d4_13 rfl rfl ?_
  have F5 := (V_aU.other W2 (Ne.symm d_L1_aU))
  obtain ⟨cl6, Ar6, qk6, Sz6, Mn6, Hv6, Gf6⟩ := id F5
  refine OwnW.aaload (pc' := 15) (v := (.ref U1)) d4_14 Ar6 rfl (inb_of Sz6 ⟨by decide, by decide⟩) (Hv6.at (inb_of Sz6 ⟨by decide, by decide⟩) rfl) rfl ?_
  refine OwnW.iloadN (pc' := 16) d4_15 rfl rfl ?_
  refine OwnW.lload (pc' := 18) d4_16 rfl rfl ?_
  have F7 := (V_U1.other W2 (Ne.symm d_L1_U1))
  obtain ⟨cl8, Ar8, qk8, Sz8, Mn8, Hv8, Gf8⟩ := id F7
  refine OwnW.stJ (pc' := 19) d4_18 Ar8 (inb_of Sz8 ⟨by decide, by decide⟩) g_U1 rfl ?_
  intro h8 W8
  have sz9 : n0 ≤ h8.size := (by rw [W8.size]; exact sz3)
  have V8 : Arv Z h8 U1 kIU .long (2 : Int32) [(.long wU0), (.long q3)] (.long (0 : Int64)) := Arv.set Ar8 qk8 Sz8 Mn8 Hv8 Gf8 rfl W8 1 rfl (Nat.le_of_ble_eq_true rfl)
  refine OwnW.aloadN (pc' := 20) d4_19 rfl (rfl) rfl ?_
  have F10 := ((F_assignments.other W2 (Or.inl (Ne.symm d_L1_o))).other W8 (Or.inl (Ne.symm d_U1_o)))
  refine OwnW.getF (a0 := a0) (pc' := 23) d4_20 (host := "") (Or.inl (hw _ (List.mem_of_getElem? (i := 19) rfl))) Via.refl F10 rfl ?_
  refine OwnW.iloadN (pc' := 24) d4_23 rfl rfl ?_
  have F11 := ((V_aS.other W2 (Ne.symm d_L1_aS)).other W8 (Ne.symm d_U1_aS))
  obtain ⟨cl12, Ar12, qk12, Sz12, Mn12, Hv12, Gf12⟩ := id F11
  refine OwnW.aaload (pc' := 25) (v := (.ref S1)) d4_24 Ar12 rfl (inb_of Sz12 ⟨by decide, by decide⟩) (Hv12.at (inb_of Sz12 ⟨by decide, by decide⟩) rfl) rfl ?_
  refine OwnW.iloadN (pc' := 26) d4_25 rfl rfl ?_
  refine OwnW.aload (pc' := 28) d4_26 rfl (rfl) rfl ?_
  have F13 := ((V_S1.other W2 (Ne.symm d_L1_S1)).other W8 (Ne.symm d_U1_S1))
  obtain ⟨cl14, Ar14, qk14, Sz14, Mn14, Hv14, Gf14⟩ := id F13
  refine OwnW.stR (pc' := 29) d4_28 Ar14 (inb_of Sz14 ⟨by decide, by decide⟩) rfl (Or.inl rfl) g_S1 rfl ?_
  intro h14 W14
  have sz15 : n0 ≤ h14.size := (by rw [W14.size]; exact sz9)
  have V14 : Arv Z h14 S1 kIS (.object "com/example/parley/parley/treesearch/SubtreeAssignment") (2 : Int32) [.null, .null] (.null) := Arv.set Ar14 qk14 Sz14 Mn14 Hv14 Gf14 rfl W14 1 rfl (Nat.le_of_ble_eq_true rfl)
  exact OwnW.ret0 d4_29 rfl (by decide) (by decide) (⟨rfl, ((((Keep.refl h0 [L1, U1, S1]).wr W2 (Or.inl (List.mem_of_getElem? (i := 0) rfl))).wr W8 (Or.inl (List.mem_of_getElem? (i := 1) rfl))).wr W14 (Or.inl (List.mem_of_getElem? (i := 2) rfl))), ((V2.other W8 d_L1_U1).other W14 d_L1_S1), (V8.other W14 d_U1_S1), V14⟩)
theorem d5_0 : decode prog_60_method_2_code 0 = .ok (.aload_n 0, 1) := by decide +kernel
theorem d5_1 : decode prog_60_method_2_code 1 = .ok (.getfield 9, 3) := by decide +kernel
theorem d5_4 : decode prog_60_method_2_code 4 = .ok (.iload_n 1, 1) := by decide +kernel
theorem d5_5 : decode prog_60_method_2_code 5 = .ok (.aaload, 1) := by decide +kernel
theorem d5_6 : decode prog_60_method_2_code 6 = .ok (.iload_n 2, 1) := by decide +kernel
theorem d5_7 : decode prog_60_method_2_code 7 = .ok (.lload_n 3, 1) := by decide +kernel
theorem d5_8 : decode prog_60_method_2_code 8 = .ok (.lastore, 1) := by decide +kernel
theorem d5_9 : decode prog_60_method_2_code 9 = .ok (.aload_n 0, 1) := by decide +kernel
theorem d5_10 : decode prog_60_method_2_code 10 = .ok (.getfield 14, 3) := by decide +kernel
theorem d5_13 : decode prog_60_method_2_code 13 = .ok (.iload_n 1, 1) := by decide +kernel
theorem d5_14 : decode prog_60_method_2_code 14 = .ok (.aaload, 1) := by decide +kernel
theorem d5_15 : decode prog_60_method_2_code 15 = .ok (.iload_n 2, 1) := by decide +kernel
theorem d5_16 : decode prog_60_method_2_code 16 = .ok (.ldc2_w 24, 3) := by decide +kernel
theorem d5_19 : decode prog_60_method_2_code 19 = .ok (.lastore, 1) := by decide +kernel
theorem d5_20 : decode prog_60_method_2_code 20 = .ok (.aload_n 0, 1) := by decide +kernel
theorem d5_21 : decode prog_60_method_2_code 21 = .ok (.getfield 19, 3) := by decide +kernel
theorem d5_24 : decode prog_60_method_2_code 24 = .ok (.iload_n 1, 1) := by decide +kernel
theorem d5_25 : decode prog_60_method_2_code 25 = .ok (.aaload, 1) := by decide +kernel
theorem d5_26 : decode prog_60_method_2_code 26 = .ok (.iload_n 2, 1) := by decide +kernel
theorem d5_27 : decode prog_60_method_2_code 27 = .ok (.aconst_null, 1) := by decide +kernel
theorem d5_28 : decode prog_60_method_2_code 28 = .ok (.aastore, 1) := by decide +kernel
theorem d5_29 : decode prog_60_method_2_code 29 = .ok (.return_, 1) := by decide +kernel
def Q5_00 (Z : State) (o : Addr) (q2 : Int64) (aL : Addr) (L0 : Addr) (L1 : Addr) (kAL : ClassId) (kIL : ClassId) (wL0 : Int64) (wL1 : Int64) (aU : Addr) (U0 : Addr) (U1 : Addr) (kAU : ClassId) (kIU : ClassId) (wU0 : Int64) (wU1 : Int64) (aS : Addr) (S0 : Addr) (S1 : Addr) (kAS : ClassId) (kIS : ClassId) (h0 : Heap) (v : Option Value) (h : Heap) : Prop := v = none ∧ Keep h0 h [L0, U0, S0] ∧ Arv Z h L0 kIL .long (2 : Int32) [(.long q2), (.long wL1)] (.long (0 : Int64)) ∧ Arv Z h U0 kIU .long (2 : Int32) [(.long (9223372036854775807 : Int64)), (.long wU1)] (.long (0 : Int64)) ∧ Arv Z h S0 kIS (.object "com/example/parley/parley/treesearch/SubtreeAssignment") (2 : Int32) [.null, .null] (.null)
abbrev GoB5_00 (l : Launch) (Z : State) (n0 : Nat) (Q : Option Value → Heap → Prop) := Go l Z ({ frames := 0, cells := 0, slots := 0, locals := 0 } : Room) (⟨"com/example/parley/parley/treesearch/ChildBounds", "reset", "(IIJ)V"⟩ : MethodName) prog_60_method_2_code 5 none n0 Q
theorem ef5_00 (m : MethodId) (o : Addr) (q2 : Int64) : entryFrame m #[(.ref o), (.int (0 : Int32)), (.int (0 : Int32)), (.long q2)] 5 = mkF m 0 #[.val (.ref o), .val (.int (0 : Int32)), .val (.int (0 : Int32)), .val (.long q2), .second] [] := by first | (simp [entryFrame, mkF, argsToLocals, Value.category]; done) | rfl
set_option maxRecDepth 65536 in
set_option maxHeartbeats 40000000 in
theorem rm5_00 (l : Launch) (Z : State) (a0 : Array Value) (hw : ∀ d ∈ tables_1, d.before a0 Z = true) (o : Addr) (q2 : Int64) (aL : Addr) (L0 : Addr) (L1 : Addr) (kAL : ClassId) (kIL : ClassId) (wL0 : Int64) (wL1 : Int64) (aU : Addr) (U0 : Addr) (U1 : Addr) (kAU : ClassId) (kIU : ClassId) (wU0 : Int64) (wU1 : Int64) (aS : Addr) (S0 : Addr) (S1 : Addr) (kAS : ClassId) (kIS : ClassId) (h0 : Heap) (n0 : Nat) (Z0 : n0 ≤ h0.size) (g_L0 : n0 ≤ L0) (g_U0 : n0 ≤ U0) (g_S0 : n0 ≤ S0) (E_o : Exa Z h0 o "com/example/parley/parley/treesearch/ChildBounds") (F_lower : Fld Z h0 o "com/example/parley/parley/treesearch/ChildBounds" "lower" "[[J" (.ref aL)) (V_aL : Arv Z h0 aL kAL (.array .long) (2 : Int32) [(.ref L0), (.ref L1)] (.null)) (V_L0 : Arv Z h0 L0 kIL .long (2 : Int32) [(.long wL0), (.long wL1)] (.long (0 : Int64))) (F_upper : Fld Z h0 o "com/example/parley/parley/treesearch/ChildBounds" "upper" "[[J" (.ref aU)) (V_aU : Arv Z h0 aU kAU (.array .long) (2 : Int32) [(.ref U0), (.ref U1)] (.null)) (V_U0 : Arv Z h0 U0 kIU .long (2 : Int32) [(.long wU0), (.long wU1)] (.long (0 : Int64))) (F_assignments : Fld Z h0 o "com/example/parley/parley/treesearch/ChildBounds" "assignments" "[[Lcom/example/parley/parley/treesearch/SubtreeAssignment;" (.ref aS)) (V_aS : Arv Z h0 aS kAS (.array (.object "com/example/parley/parley/treesearch/SubtreeAssignment")) (2 : Int32) [(.ref S0), (.ref S1)] (.null)) (V_S0 : Arv Z h0 S0 kIS (.object "com/example/parley/parley/treesearch/SubtreeAssignment") (2 : Int32) [.null, .null] (.null)) (d_L0_aU : L0 ≠ aU) (d_L0_U0 : L0 ≠ U0) (d_L0_aS : L0 ≠ aS) (d_L0_S0 : L0 ≠ S0) (d_L0_o : L0 ≠ o) (d_L0_aL : L0 ≠ aL) (d_U0_aS : U0 ≠ aS) (d_U0_S0 : U0 ≠ S0) (d_U0_o : U0 ≠ o) (d_U0_aL : U0 ≠ aL) (d_U0_aU : U0 ≠ aU) (d_S0_o : S0 ≠ o) (d_S0_aL : S0 ≠ aL) (d_S0_aU : S0 ≠ aU) (d_S0_aS : S0 ≠ aS) :
    Con l Z ({ frames := 0, cells := 0, slots := 0, locals := 0 } : Room) (⟨"com/example/parley/parley/treesearch/ChildBounds", "reset", "(IIJ)V"⟩ : MethodName) prog_60_method_2_code 5 none n0 #[(.ref o), (.int (0 : Int32)), (.int (0 : Int32)), (.long q2)] h0 (Q5_00 Z o q2 aL L0 L1 kAL kIL wL0 wL1 aU U0 U1 kAU kIU wU0 wU1 aS S0 S1 kAS kIS h0) := by
  refine OwnW.Con.of (by first | decide +kernel | exact plainFor_of_name (by simp [plainName, overriddenIn])) (fun m => ef5_00 m o q2) ?_
  show GoB5_00 l Z n0 (Q5_00 Z o q2 aL L0 L1 kAL kIL wL0 wL1 aU U0 U1 kAU kIU wU0 wU1 aS S0 S1 kAS kIS h0) h0 0 0 0 #[.val (.ref o), .val (.int (0 : Int32)), .val (.int (0 : Int32)), .val (.long q2), .second] []
  refine OwnW.aloadN (pc' := 1) d5_0 rfl (rfl) rfl ?_
  refine OwnW.getF (a0 := a0) (pc' := 4) d5_1 (host := "") (Or.inl (hw _ (List.mem_of_getElem? (i := 12) rfl))) Via.refl F_lower rfl ?_
  refine OwnW.iloadN (pc' := 5) d5_4 rfl rfl ?_
  obtain ⟨cl1, Ar1, qk1, Sz1, Mn1, Hv1, Gf1⟩ := id V_aL
  refine OwnW.aaload (pc' := 6) (v := (.ref L0)) d5_5 Ar1 rfl (inb_of Sz1 ⟨by decide, by decide⟩) (Hv1.at (inb_of Sz1 ⟨by decide, by decide⟩) rfl) rfl ?_
  refine OwnW.iloadN (pc' := 7) d5_6 rfl rfl ?_
  refine OwnW.lloadN (pc' := 8) d5_7 rfl rfl ?_
  obtain ⟨cl2, Ar2, qk2, Sz2, Mn2, Hv2, Gf2⟩ := id V_L0
  refine OwnW.stJ (pc' := 9) d5_8 Ar2 (inb_of Sz2 ⟨by decide, by decide⟩) g_L0 rfl ?_
  intro h2 W2
  have sz3 : n0 ≤ h2.size := (by rw [W2.size]; exact Z0)
  have V2 : Arv Z h2 L0 kIL .long (2 : Int32) [(.long q2), (.long wL1)] (.long (0 : Int64)) := Arv.set Ar2 qk2 Sz2 Mn2 Hv2 Gf2 rfl W2 0 rfl (Nat.le_of_ble_eq_true rfl)
  refine OwnW.aloadN (pc' := 10) d5_9 rfl (rfl) rfl ?_
  have F4 := (F_upper.other W2 (Or.inl (Ne.symm d_L0_o)))
  refine OwnW.getF (a0 := a0) (pc' := 13) d5_10 (host := "") (Or.inl (hw _ (List.mem_of_getElem? (i := 14) rfl))) Via.refl F4 rfl ?_
  refine OwnW.iloadN (pc' := 14) d5_13 rfl rfl ?_
  have F5 := (V_aU.other W2 (Ne.symm d_L0_aU))
  obtain ⟨cl6, Ar6, qk6, Sz6, Mn6, Hv6, Gf6⟩ := id F5
  refine OwnW.aaload (pc' := 15) (v := (.ref U0)) d5_14 Ar6 rfl (inb_of Sz6 ⟨by decide, by decide⟩) (Hv6.at (inb_of Sz6 ⟨by decide, by decide⟩) rfl) rfl ?_
  refine OwnW.iloadN (pc' := 16) d5_15 rfl rfl ?_
  refine OwnW.ldc2J (a0 := a0) (pc' := 19) (v := (9223372036854775807 : Int64)) d5_16 (hw _ (List.mem_of_getElem? (i := 21) rfl)) rfl ?_
  have F7 := (V_U0.other W2 (Ne.symm d_L0_U0))
  obtain ⟨cl8, Ar8, qk8, Sz8, Mn8, Hv8, Gf8⟩ := id F7
  refine OwnW.stJ (pc' := 20) d5_19 Ar8 (inb_of Sz8 ⟨by decide, by decide⟩) g_U0 rfl ?_
  intro h8 W8
  have sz9 : n0 ≤ h8.size := (by rw [W8.size]; exact sz3)
  have V8 : Arv Z h8 U0 kIU .long (2 : Int32) [(.long (9223372036854775807 : Int64)), (.long wU1)] (.long (0 : Int64)) := Arv.set Ar8 qk8 Sz8 Mn8 Hv8 Gf8 rfl W8 0 rfl (Nat.le_of_ble_eq_true rfl)
  refine OwnW.aloadN (pc' := 21) d5_20 rfl (rfl) rfl ?_
  have F10 := ((F_assignments.other W2 (Or.inl (Ne.symm d_L0_o))).other W8 (Or.inl (Ne.symm d_U0_o)))
  refine OwnW.getF (a0 := a0) (pc' := 24) d5_21 (host := "") (Or.inl (hw _ (List.mem_of_getElem? (i := 19) rfl))) Via.refl F10 rfl ?_
  refine OwnW.iloadN (pc' := 25) d5_24 rfl rfl ?_
  have F11 := ((V_aS.other W2 (Ne.symm d_L0_aS)).other W8 (Ne.symm d_U0_aS))
  obtain ⟨cl12, Ar12, qk12, Sz12, Mn12, Hv12, Gf12⟩ := id F11
  refine OwnW.aaload (pc' := 26) (v := (.ref S0)) d5_25 Ar12 rfl (inb_of Sz12 ⟨by decide, by decide⟩) (Hv12.at (inb_of Sz12 ⟨by decide, by decide⟩) rfl) rfl ?_
  refine OwnW.iloadN (pc' := 27) d5_26 rfl rfl ?_
  refine OwnW.aconstNull (pc' := 28) d5_27 rfl ?_
  have F13 := ((V_S0.other W2 (Ne.symm d_L0_S0)).other W8 (Ne.symm d_U0_S0))
  obtain ⟨cl14, Ar14, qk14, Sz14, Mn14, Hv14, Gf14⟩ := id F13
  refine OwnW.stR (pc' := 29) d5_28 Ar14 (inb_of Sz14 ⟨by decide, by decide⟩) rfl (Or.inl rfl) g_S0 rfl ?_
  intro h14 W14
  have sz15 : n0 ≤ h14.size := (by rw [W14.size]; exact sz9)
  have V14 : Arv Z h14 S0 kIS (.object "com/example/parley/parley/treesearch/SubtreeAssignment") (2 : Int32) [.null, .null] (.null) := Arv.set Ar14 qk14 Sz14 Mn14 Hv14 Gf14 rfl W14 0 rfl (Nat.le_of_ble_eq_true rfl)
  exact OwnW.ret0 d5_29 rfl (by decide) (by decide) (⟨rfl, ((((Keep.refl h0 [L0, U0, S0]).wr W2 (Or.inl (List.mem_of_getElem? (i := 0) rfl))).wr W8 (Or.inl (List.mem_of_getElem? (i := 1) rfl))).wr W14 (Or.inl (List.mem_of_getElem? (i := 2) rfl))), ((V2.other W8 d_L0_U0).other W14 d_L0_S0), (V8.other W14 d_U0_S0), V14⟩)
def Q5_01 (Z : State) (o : Addr) (q2 : Int64) (aL : Addr) (L0 : Addr) (L1 : Addr) (kAL : ClassId) (kIL : ClassId) (wL0 : Int64) (wL1 : Int64) (aU : Addr) (U0 : Addr) (U1 : Addr) (kAU : ClassId) (kIU : ClassId) (wU0 : Int64) (wU1 : Int64) (aS : Addr) (S0 : Addr) (S1 : Addr) (kAS : ClassId) (kIS : ClassId) (h0 : Heap) (v : Option Value) (h : Heap) : Prop := v = none ∧ Keep h0 h [L0, U0, S0] ∧ Arv Z h L0 kIL .long (2 : Int32) [(.long wL0), (.long q2)] (.long (0 : Int64)) ∧ Arv Z h U0 kIU .long (2 : Int32) [(.long wU0), (.long (9223372036854775807 : Int64))] (.long (0 : Int64)) ∧ Arv Z h S0 kIS (.object "com/example/parley/parley/treesearch/SubtreeAssignment") (2 : Int32) [.null, .null] (.null)
abbrev GoB5_01 (l : Launch) (Z : State) (n0 : Nat) (Q : Option Value → Heap → Prop) := Go l Z ({ frames := 0, cells := 0, slots := 0, locals := 0 } : Room) (⟨"com/example/parley/parley/treesearch/ChildBounds", "reset", "(IIJ)V"⟩ : MethodName) prog_60_method_2_code 5 none n0 Q
theorem ef5_01 (m : MethodId) (o : Addr) (q2 : Int64) : entryFrame m #[(.ref o), (.int (0 : Int32)), (.int (1 : Int32)), (.long q2)] 5 = mkF m 0 #[.val (.ref o), .val (.int (0 : Int32)), .val (.int (1 : Int32)), .val (.long q2), .second] [] := by first | (simp [entryFrame, mkF, argsToLocals, Value.category]; done) | rfl
set_option maxRecDepth 65536 in
set_option maxHeartbeats 40000000 in
theorem rm5_01 (l : Launch) (Z : State) (a0 : Array Value) (hw : ∀ d ∈ tables_1, d.before a0 Z = true) (o : Addr) (q2 : Int64) (aL : Addr) (L0 : Addr) (L1 : Addr) (kAL : ClassId) (kIL : ClassId) (wL0 : Int64) (wL1 : Int64) (aU : Addr) (U0 : Addr) (U1 : Addr) (kAU : ClassId) (kIU : ClassId) (wU0 : Int64) (wU1 : Int64) (aS : Addr) (S0 : Addr) (S1 : Addr) (kAS : ClassId) (kIS : ClassId) (h0 : Heap) (n0 : Nat) (Z0 : n0 ≤ h0.size) (g_L0 : n0 ≤ L0) (g_U0 : n0 ≤ U0) (g_S0 : n0 ≤ S0) (E_o : Exa Z h0 o "com/example/parley/parley/treesearch/ChildBounds") (F_lower : Fld Z h0 o "com/example/parley/parley/treesearch/ChildBounds" "lower" "[[J" (.ref aL)) (V_aL : Arv Z h0 aL kAL (.array .long) (2 : Int32) [(.ref L0), (.ref L1)] (.null)) (V_L0 : Arv Z h0 L0 kIL .long (2 : Int32) [(.long wL0), (.long wL1)] (.long (0 : Int64))) (F_upper : Fld Z h0 o "com/example/parley/parley/treesearch/ChildBounds" "upper" "[[J" (.ref aU)) (V_aU : Arv Z h0 aU kAU (.array .long) (2 : Int32) [(.ref U0), (.ref U1)] (.null)) (V_U0 : Arv Z h0 U0 kIU .long (2 : Int32) [(.long wU0), (.long wU1)] (.long (0 : Int64))) (F_assignments : Fld Z h0 o "com/example/parley/parley/treesearch/ChildBounds" "assignments" "[[Lcom/example/parley/parley/treesearch/SubtreeAssignment;" (.ref aS)) (V_aS : Arv Z h0 aS kAS (.array (.object "com/example/parley/parley/treesearch/SubtreeAssignment")) (2 : Int32) [(.ref S0), (.ref S1)] (.null)) (V_S0 : Arv Z h0 S0 kIS (.object "com/example/parley/parley/treesearch/SubtreeAssignment") (2 : Int32) [.null, .null] (.null)) (d_L0_aU : L0 ≠ aU) (d_L0_U0 : L0 ≠ U0) (d_L0_aS : L0 ≠ aS) (d_L0_S0 : L0 ≠ S0) (d_L0_o : L0 ≠ o) (d_L0_aL : L0 ≠ aL) (d_U0_aS : U0 ≠ aS) (d_U0_S0 : U0 ≠ S0) (d_U0_o : U0 ≠ o) (d_U0_aL : U0 ≠ aL) (d_U0_aU : U0 ≠ aU) (d_S0_o : S0 ≠ o) (d_S0_aL : S0 ≠ aL) (d_S0_aU : S0 ≠ aU) (d_S0_aS : S0 ≠ aS) :
    Con l Z ({ frames := 0, cells := 0, slots := 0, locals := 0 } : Room) (⟨"com/example/parley/parley/treesearch/ChildBounds", "reset", "(IIJ)V"⟩ : MethodName) prog_60_method_2_code 5 none n0 #[(.ref o), (.int (0 : Int32)), (.int (1 : Int32)), (.long q2)] h0 (Q5_01 Z o q2 aL L0 L1 kAL kIL wL0 wL1 aU U0 U1 kAU kIU wU0 wU1 aS S0 S1 kAS kIS h0) := by
  refine OwnW.Con.of (by first | decide +kernel | exact plainFor_of_name (by simp [plainName, overriddenIn])) (fun m => ef5_01 m o q2) ?_
  show GoB5_01 l Z n0 (Q5_01 Z o q2 aL L0 L1 kAL kIL wL0 wL1 aU U0 U1 kAU kIU wU0 wU1 aS S0 S1 kAS kIS h0) h0 0 0 0 #[.val (.ref o), .val (.int (0 : Int32)), .val (.int (1 : Int32)), .val (.long q2), .second] []
  refine OwnW.aloadN (pc' := 1) d5_0 rfl (rfl) rfl ?_
  refine OwnW.getF (a0 := a0) (pc' := 4) d5_1 (host := "") (Or.inl (hw _ (List.mem_of_getElem? (i := 12) rfl))) Via.refl F_lower rfl ?_
  refine OwnW.iloadN (pc' := 5) d5_4 rfl rfl ?_
  obtain ⟨cl1, Ar1, qk1, Sz1, Mn1, Hv1, Gf1⟩ := id V_aL
  refine OwnW.aaload (pc' := 6) (v := (.ref L0)) d5_5 Ar1 rfl (inb_of Sz1 ⟨by decide, by decide⟩) (Hv1.at (inb_of Sz1 ⟨by decide, by decide⟩) rfl) rfl ?_
  refine OwnW.iloadN (pc' := 7) d5_6 rfl rfl ?_
  refine OwnW.lloadN (pc' := 8) d5_7 rfl rfl ?_
  obtain ⟨cl2, Ar2, qk2, Sz2, Mn2, Hv2, Gf2⟩ := id V_L0
  refine OwnW.stJ (pc' := 9) d5_8 Ar2 (inb_of Sz2 ⟨by decide, by decide⟩) g_L0 rfl ?_
  intro h2 W2
  have sz3 : n0 ≤ h2.size := (by rw [W2.size]; exact Z0)
  have V2 : Arv Z h2 L0 kIL .long (2 : Int32) [(.long wL0), (.long q2)] (.long (0 : Int64)) := Arv.set Ar2 qk2 Sz2 Mn2 Hv2 Gf2 rfl W2 1 rfl (Nat.le_of_ble_eq_true rfl)
  refine OwnW.aloadN (pc' := 10) d5_9 rfl (rfl) rfl ?_
  have F4 := (F_upper.other W2 (Or.inl (Ne.symm d_L0_o)))
  refine OwnW.getF (a0 := a0) (pc' := 13) d5_10 (host := "") (Or.inl (hw _ (List.mem_of_getElem? (i := 14) rfl))) Via.refl F4 rfl ?_
  refine OwnW.iloadN (pc' := 14) d5_13 rfl rfl ?_
  have F5 := (V_aU.other W2 (Ne.symm d_L0_aU))
  obtain ⟨cl6, Ar6, qk6, Sz6, Mn6, Hv6, Gf6⟩ := id F5
  refine OwnW.aaload (pc' := 15) (v := (.ref U0)) d5_14 Ar6 rfl (inb_of Sz6 ⟨by decide, by decide⟩) (Hv6.at (inb_of Sz6 ⟨by decide, by decide⟩) rfl) rfl ?_
  refine OwnW.iloadN (pc' := 16) d5_15 rfl rfl ?_
  refine OwnW.ldc2J (a0 := a0) (pc' := 19) (v := (9223372036854775807 : Int64)) d5_16 (hw _ (List.mem_of_getElem? (i := 21) rfl)) rfl ?_
  have F7 := (V_U0.other W2 (Ne.symm d_L0_U0))
  obtain ⟨cl8, Ar8, qk8, Sz8, Mn8, Hv8, Gf8⟩ := id F7
  refine OwnW.stJ (pc' := 20) d5_19 Ar8 (inb_of Sz8 ⟨by decide, by decide⟩) g_U0 rfl ?_
  intro h8 W8
  have sz9 : n0 ≤ h8.size := (by rw [W8.size]; exact sz3)
  have V8 : Arv Z h8 U0 kIU .long (2 : Int32) [(.long wU0), (.long (9223372036854775807 : Int64))] (.long (0 : Int64)) := Arv.set Ar8 qk8 Sz8 Mn8 Hv8 Gf8 rfl W8 1 rfl (Nat.le_of_ble_eq_true rfl)
  refine OwnW.aloadN (pc' := 21) d5_20 rfl (rfl) rfl ?_
  have F10 := ((F_assignments.other W2 (Or.inl (Ne.symm d_L0_o))).other W8 (Or.inl (Ne.symm d_U0_o)))
  refine OwnW.getF (a0 := a0) (pc' := 24) d5_21 (host := "") (Or.inl (hw _ (List.mem_of_getElem? (i := 19) rfl))) Via.refl F10 rfl ?_
  refine OwnW.iloadN (pc' := 25) d5_24 rfl rfl ?_
  have F11 := ((V_aS.other W2 (Ne.symm d_L0_aS)).other W8 (Ne.symm d_U0_aS))
  obtain ⟨cl12, Ar12, qk12, Sz12, Mn12, Hv12, Gf12⟩ := id F11
  refine OwnW.aaload (pc' := 26) (v := (.ref S0)) d5_25 Ar12 rfl (inb_of Sz12 ⟨by decide, by decide⟩) (Hv12.at (inb_of Sz12 ⟨by decide, by decide⟩) rfl) rfl ?_
  refine OwnW.iloadN (pc' := 27) d5_26 rfl rfl ?_
  refine OwnW.aconstNull (pc' := 28) d5_27 rfl ?_
  have F13 := ((V_S0.other W2 (Ne.symm d_L0_S0)).other W8 (Ne.symm d_U0_S0))
  obtain ⟨cl14, Ar14, qk14, Sz14, Mn14, Hv14, Gf14⟩ := id F13
  refine OwnW.stR (pc' := 29) d5_28 Ar14 (inb_of Sz14 ⟨by decide, by decide⟩) rfl (Or.inl rfl) g_S0 rfl ?_
  intro h14 W14
  have sz15 : n0 ≤ h14.size := (by rw [W14.size]; exact sz9)
  have V14 : Arv Z h14 S0 kIS (.object "com/example/parley/parley/treesearch/SubtreeAssignment") (2 : Int32) [.null, .null] (.null) := Arv.set Ar14 qk14 Sz14 Mn14 Hv14 Gf14 rfl W14 1 rfl (Nat.le_of_ble_eq_true rfl)
  exact OwnW.ret0 d5_29 rfl (by decide) (by decide) (⟨rfl, ((((Keep.refl h0 [L0, U0, S0]).wr W2 (Or.inl (List.mem_of_getElem? (i := 0) rfl))).wr W8 (Or.inl (List.mem_of_getElem? (i := 1) rfl))).wr W14 (Or.inl (List.mem_of_getElem? (i := 2) rfl))), ((V2.other W8 d_L0_U0).other W14 d_L0_S0), (V8.other W14 d_U0_S0), V14⟩)
def Q5_10 (Z : State) (o : Addr) (q2 : Int64) (aL : Addr) (L0 : Addr) (L1 : Addr) (kAL : ClassId) (kIL : ClassId) (wL0 : Int64) (wL1 : Int64) (aU : Addr) (U0 : Addr) (U1 : Addr) (kAU : ClassId) (kIU : ClassId) (wU0 : Int64) (wU1 : Int64) (aS : Addr) (S0 : Addr) (S1 : Addr) (kAS : ClassId) (kIS : ClassId) (h0 : Heap) (v : Option Value) (h : Heap) : Prop := v = none ∧ Keep h0 h [L1, U1, S1] ∧ Arv Z h L1 kIL .long (2 : Int32) [(.long q2), (.long wL1)] (.long (0 : Int64)) ∧ Arv Z h U1 kIU .long (2 : Int32) [(.long (9223372036854775807 : Int64)), (.long wU1)] (.long (0 : Int64)) ∧ Arv Z h S1 kIS (.object "com/example/parley/parley/treesearch/SubtreeAssignment") (2 : Int32) [.null, .null] (.null)
abbrev GoB5_10 (l : Launch) (Z : State) (n0 : Nat) (Q : Option Value → Heap → Prop) := Go l Z ({ frames := 0, cells := 0, slots := 0, locals := 0 } : Room) (⟨"com/example/parley/parley/treesearch/ChildBounds", "reset", "(IIJ)V"⟩ : MethodName) prog_60_method_2_code 5 none n0 Q
theorem ef5_10 (m : MethodId) (o : Addr) (q2 : Int64) : entryFrame m #[(.ref o), (.int (1 : Int32)), (.int (0 : Int32)), (.long q2)] 5 = mkF m 0 #[.val (.ref o), .val (.int (1 : Int32)), .val (.int (0 : Int32)), .val (.long q2), .second] [] := by first | (simp [entryFrame, mkF, argsToLocals, Value.category]; done) | rfl
set_option maxRecDepth 65536 in
set_option maxHeartbeats 40000000 in
theorem rm5_10 (l : Launch) (Z : State) (a0 : Array Value) (hw : ∀ d ∈ tables_1, d.before a0 Z = true) (o : Addr) (q2 : Int64) (aL : Addr) (L0 : Addr) (L1 : Addr) (kAL : ClassId) (kIL : ClassId) (wL0 : Int64) (wL1 : Int64) (aU : Addr) (U0 : Addr) (U1 : Addr) (kAU : ClassId) (kIU : ClassId) (wU0 : Int64) (wU1 : Int64) (aS : Addr) (S0 : Addr) (S1 : Addr) (kAS : ClassId) (kIS : ClassId) (h0 : Heap) (n0 : Nat) (Z0 : n0 ≤ h0.size) (g_L1 : n0 ≤ L1) (g_U1 : n0 ≤ U1) (g_S1 : n0 ≤ S1) (E_o : Exa Z h0 o "com/example/parley/parley/treesearch/ChildBounds") (F_lower : Fld Z h0 o "com/example/parley/parley/treesearch/ChildBounds" "lower" "[[J" (.ref aL)) (V_aL : Arv Z h0 aL kAL (.array .long) (2 : Int32) [(.ref L0), (.ref L1)] (.null)) (V_L1 : Arv Z h0 L1 kIL .long (2 : Int32) [(.long wL0), (.long wL1)] (.long (0 : Int64))) (F_upper : Fld Z h0 o "com/example/parley/parley/treesearch/ChildBounds" "upper" "[[J" (.ref aU)) (V_aU : Arv Z h0 aU kAU (.array .long) (2 : Int32) [(.ref U0), (.ref U1)] (.null)) (V_U1 : Arv Z h0 U1 kIU .long (2 : Int32) [(.long wU0), (.long wU1)] (.long (0 : Int64))) (F_assignments : Fld Z h0 o "com/example/parley/parley/treesearch/ChildBounds" "assignments" "[[Lcom/example/parley/parley/treesearch/SubtreeAssignment;" (.ref aS)) (V_aS : Arv Z h0 aS kAS (.array (.object "com/example/parley/parley/treesearch/SubtreeAssignment")) (2 : Int32) [(.ref S0), (.ref S1)] (.null)) (V_S1 : Arv Z h0 S1 kIS (.object "com/example/parley/parley/treesearch/SubtreeAssignment") (2 : Int32) [.null, .null] (.null)) (d_L1_aU : L1 ≠ aU) (d_L1_U1 : L1 ≠ U1) (d_L1_aS : L1 ≠ aS) (d_L1_S1 : L1 ≠ S1) (d_L1_o : L1 ≠ o) (d_L1_aL : L1 ≠ aL) (d_U1_aS : U1 ≠ aS) (d_U1_S1 : U1 ≠ S1) (d_U1_o : U1 ≠ o) (d_U1_aL : U1 ≠ aL) (d_U1_aU : U1 ≠ aU) (d_S1_o : S1 ≠ o) (d_S1_aL : S1 ≠ aL) (d_S1_aU : S1 ≠ aU) (d_S1_aS : S1 ≠ aS) :
    Con l Z ({ frames := 0, cells := 0, slots := 0, locals := 0 } : Room) (⟨"com/example/parley/parley/treesearch/ChildBounds", "reset", "(IIJ)V"⟩ : MethodName) prog_60_method_2_code 5 none n0 #[(.ref o), (.int (1 : Int32)), (.int (0 : Int32)), (.long q2)] h0 (Q5_10 Z o q2 aL L0 L1 kAL kIL wL0 wL1 aU U0 U1 kAU kIU wU0 wU1 aS S0 S1 kAS kIS h0) := by
  refine OwnW.Con.of (by first | decide +kernel | exact plainFor_of_name (by simp [plainName, overriddenIn])) (fun m => ef5_10 m o q2) ?_
  show GoB5_10 l Z n0 (Q5_10 Z o q2 aL L0 L1 kAL kIL wL0 wL1 aU U0 U1 kAU kIU wU0 wU1 aS S0 S1 kAS kIS h0) h0 0 0 0 #[.val (.ref o), .val (.int (1 : Int32)), .val (.int (0 : Int32)), .val (.long q2), .second] []
  refine OwnW.aloadN (pc' := 1) d5_0 rfl (rfl) rfl ?_
  refine OwnW.getF (a0 := a0) (pc' := 4) d5_1 (host := "") (Or.inl (hw _ (List.mem_of_getElem? (i := 12) rfl))) Via.refl F_lower rfl ?_
  refine OwnW.iloadN (pc' := 5) d5_4 rfl rfl ?_
  obtain ⟨cl1, Ar1, qk1, Sz1, Mn1, Hv1, Gf1⟩ := id V_aL
  refine OwnW.aaload (pc' := 6) (v := (.ref L1)) d5_5 Ar1 rfl (inb_of Sz1 ⟨by decide, by decide⟩) (Hv1.at (inb_of Sz1 ⟨by decide, by decide⟩) rfl) rfl ?_
  refine OwnW.iloadN (pc' := 7) d5_6 rfl rfl ?_
  refine OwnW.lloadN (pc' := 8) d5_7 rfl rfl ?_
  obtain ⟨cl2, Ar2, qk2, Sz2, Mn2, Hv2, Gf2⟩ := id V_L1
  refine OwnW.stJ (pc' := 9) d5_8 Ar2 (inb_of Sz2 ⟨by decide, by decide⟩) g_L1 rfl ?_
  intro h2 W2
  have sz3 : n0 ≤ h2.size := (by rw [W2.size]; exact Z0)
  have V2 : Arv Z h2 L1 kIL .long (2 : Int32) [(.long q2), (.long wL1)] (.long (0 : Int64)) := Arv.set Ar2 qk2 Sz2 Mn2 Hv2 Gf2 rfl W2 0 rfl (Nat.le_of_ble_eq_true rfl)
  refine OwnW.aloadN (pc' := 10) d5_9 rfl (rfl) rfl ?_
  have F4 := (F_upper.other W2 (Or.inl (Ne.symm d_L1_o)))
  refine OwnW.getF (a0 := a0) (pc' := 13) d5_10 (host := "") (Or.inl (hw _ (List.mem_of_getElem? (i := 14) rfl))) Via.refl F4 rfl ?_
  refine OwnW.iloadN (pc' := 14) d5_13 rfl rfl ?_
  have F5 := (V_aU.other W2 (Ne.symm d_L1_aU))
  obtain ⟨cl6, Ar6, qk6, Sz6, Mn6, Hv6, Gf6⟩ := id F5
  refine OwnW.aaload (pc' := 15) (v := (.ref U1)) d5_14 Ar6 rfl (inb_of Sz6 ⟨by decide, by decide⟩) (Hv6.at (inb_of Sz6 ⟨by decide, by decide⟩) rfl) rfl ?_
  refine OwnW.iloadN (pc' := 16) d5_15 rfl rfl ?_
  refine OwnW.ldc2J (a0 := a0) (pc' := 19) (v := (9223372036854775807 : Int64)) d5_16 (hw _ (List.mem_of_getElem? (i := 21) rfl)) rfl ?_
  have F7 := (V_U1.other W2 (Ne.symm d_L1_U1))
  obtain ⟨cl8, Ar8, qk8, Sz8, Mn8, Hv8, Gf8⟩ := id F7
  refine OwnW.stJ (pc' := 20) d5_19 Ar8 (inb_of Sz8 ⟨by decide, by decide⟩) g_U1 rfl ?_
  intro h8 W8
  have sz9 : n0 ≤ h8.size := (by rw [W8.size]; exact sz3)
  have V8 : Arv Z h8 U1 kIU .long (2 : Int32) [(.long (9223372036854775807 : Int64)), (.long wU1)] (.long (0 : Int64)) := Arv.set Ar8 qk8 Sz8 Mn8 Hv8 Gf8 rfl W8 0 rfl (Nat.le_of_ble_eq_true rfl)
  refine OwnW.aloadN (pc' := 21) d5_20 rfl (rfl) rfl ?_
  have F10 := ((F_assignments.other W2 (Or.inl (Ne.symm d_L1_o))).other W8 (Or.inl (Ne.symm d_U1_o)))
  refine OwnW.getF (a0 := a0) (pc' := 24) d5_21 (host := "") (Or.inl (hw _ (List.mem_of_getElem? (i := 19) rfl))) Via.refl F10 rfl ?_
  refine OwnW.iloadN (pc' := 25) d5_24 rfl rfl ?_
  have F11 := ((V_aS.other W2 (Ne.symm d_L1_aS)).other W8 (Ne.symm d_U1_aS))
  obtain ⟨cl12, Ar12, qk12, Sz12, Mn12, Hv12, Gf12⟩ := id F11
  refine OwnW.aaload (pc' := 26) (v := (.ref S1)) d5_25 Ar12 rfl (inb_of Sz12 ⟨by decide, by decide⟩) (Hv12.at (inb_of Sz12 ⟨by decide, by decide⟩) rfl) rfl ?_
  refine OwnW.iloadN (pc' := 27) d5_26 rfl rfl ?_
  refine OwnW.aconstNull (pc' := 28) d5_27 rfl ?_
  have F13 := ((V_S1.other W2 (Ne.symm d_L1_S1)).other W8 (Ne.symm d_U1_S1))
  obtain ⟨cl14, Ar14, qk14, Sz14, Mn14, Hv14, Gf14⟩ := id F13
  refine OwnW.stR (pc' := 29) d5_28 Ar14 (inb_of Sz14 ⟨by decide, by decide⟩) rfl (Or.inl rfl) g_S1 rfl ?_
  intro h14 W14
  have sz15 : n0 ≤ h14.size := (by rw [W14.size]; exact sz9)
  have V14 : Arv Z h14 S1 kIS (.object "com/example/parley/parley/treesearch/SubtreeAssignment") (2 : Int32) [.null, .null] (.null) := Arv.set Ar14 qk14 Sz14 Mn14 Hv14 Gf14 rfl W14 0 rfl (Nat.le_of_ble_eq_true rfl)
  exact OwnW.ret0 d5_29 rfl (by decide) (by decide) (⟨rfl, ((((Keep.refl h0 [L1, U1, S1]).wr W2 (Or.inl (List.mem_of_getElem? (i := 0) rfl))).wr W8 (Or.inl (List.mem_of_getElem? (i := 1) rfl))).wr W14 (Or.inl (List.mem_of_getElem? (i := 2) rfl))), ((V2.other W8 d_L1_U1).other W14 d_L1_S1), (V8.other W14 d_U1_S1), V14⟩)
def Q5_11 (Z : State) (o : Addr) (q2 : Int64) (aL : Addr) (L0 : Addr) (L1 : Addr) (kAL : ClassId) (kIL : ClassId) (wL0 : Int64) (wL1 : Int64) (aU : Addr) (U0 : Addr) (U1 : Addr) (kAU : ClassId) (kIU : ClassId) (wU0 : Int64) (wU1 : Int64) (aS : Addr) (S0 : Addr) (S1 : Addr) (kAS : ClassId) (kIS : ClassId) (h0 : Heap) (v : Option Value) (h : Heap) : Prop := v = none ∧ Keep h0 h [L1, U1, S1] ∧ Arv Z h L1 kIL .long (2 : Int32) [(.long wL0), (.long q2)] (.long (0 : Int64)) ∧ Arv Z h U1 kIU .long (2 : Int32) [(.long wU0), (.long (9223372036854775807 : Int64))] (.long (0 : Int64)) ∧ Arv Z h S1 kIS (.object "com/example/parley/parley/treesearch/SubtreeAssignment") (2 : Int32) [.null, .null] (.null)
abbrev GoB5_11 (l : Launch) (Z : State) (n0 : Nat) (Q : Option Value → Heap → Prop) := Go l Z ({ frames := 0, cells := 0, slots := 0, locals := 0 } : Room) (⟨"com/example/parley/parley/treesearch/ChildBounds", "reset", "(IIJ)V"⟩ : MethodName) prog_60_method_2_code 5 none n0 Q
theorem ef5_11 (m : MethodId) (o : Addr) (q2 : Int64) : entryFrame m #[(.ref o), (.int (1 : Int32)), (.int (1 : Int32)), (.long q2)] 5 = mkF m 0 #[.val (.ref o), .val (.int (1 : Int32)), .val (.int (1 : Int32)), .val (.long q2), .second] [] := by first | (simp [entryFrame, mkF, argsToLocals, Value.category]; done) | rfl
set_option maxRecDepth 65536 in
set_option maxHeartbeats 40000000 in
theorem rm5_11 (l : Launch) (Z : State) (a0 : Array Value) (hw : ∀ d ∈ tables_1, d.before a0 Z = true) (o : Addr) (q2 : Int64) (aL : Addr) (L0 : Addr) (L1 : Addr) (kAL : ClassId) (kIL : ClassId) (wL0 : Int64) (wL1 : Int64) (aU : Addr) (U0 : Addr) (U1 : Addr) (kAU : ClassId) (kIU : ClassId) (wU0 : Int64) (wU1 : Int64) (aS : Addr) (S0 : Addr) (S1 : Addr) (kAS : ClassId) (kIS : ClassId) (h0 : Heap) (n0 : Nat) (Z0 : n0 ≤ h0.size) (g_L1 : n0 ≤ L1) (g_U1 : n0 ≤ U1) (g_S1 : n0 ≤ S1) (E_o : Exa Z h0 o "com/example/parley/parley/treesearch/ChildBounds") (F_lower : Fld Z h0 o "com/example/parley/parley/treesearch/ChildBounds" "lower" "[[J" (.ref aL)) (V_aL : Arv Z h0 aL kAL (.array .long) (2 : Int32) [(.ref L0), (.ref L1)] (.null)) (V_L1 : Arv Z h0 L1 kIL .long (2 : Int32) [(.long wL0), (.long wL1)] (.long (0 : Int64))) (F_upper : Fld Z h0 o "com/example/parley/parley/treesearch/ChildBounds" "upper" "[[J" (.ref aU)) (V_aU : Arv Z h0 aU kAU (.array .long) (2 : Int32) [(.ref U0), (.ref U1)] (.null)) (V_U1 : Arv Z h0 U1 kIU .long (2 : Int32) [(.long wU0), (.long wU1)] (.long (0 : Int64))) (F_assignments : Fld Z h0 o "com/example/parley/parley/treesearch/ChildBounds" "assignments" "[[Lcom/example/parley/parley/treesearch/SubtreeAssignment;" (.ref aS)) (V_aS : Arv Z h0 aS kAS (.array (.object "com/example/parley/parley/treesearch/SubtreeAssignment")) (2 : Int32) [(.ref S0), (.ref S1)] (.null)) (V_S1 : Arv Z h0 S1 kIS (.object "com/example/parley/parley/treesearch/SubtreeAssignment") (2 : Int32) [.null, .null] (.null)) (d_L1_aU : L1 ≠ aU) (d_L1_U1 : L1 ≠ U1) (d_L1_aS : L1 ≠ aS) (d_L1_S1 : L1 ≠ S1) (d_L1_o : L1 ≠ o) (d_L1_aL : L1 ≠ aL) (d_U1_aS : U1 ≠ aS) (d_U1_S1 : U1 ≠ S1) (d_U1_o : U1 ≠ o) (d_U1_aL : U1 ≠ aL) (d_U1_aU : U1 ≠ aU) (d_S1_o : S1 ≠ o) (d_S1_aL : S1 ≠ aL) (d_S1_aU : S1 ≠ aU) (d_S1_aS : S1 ≠ aS) :
    Con l Z ({ frames := 0, cells := 0, slots := 0, locals := 0 } : Room) (⟨"com/example/parley/parley/treesearch/ChildBounds", "reset", "(IIJ)V"⟩ : MethodName) prog_60_method_2_code 5 none n0 #[(.ref o), (.int (1 : Int32)), (.int (1 : Int32)), (.long q2)] h0 (Q5_11 Z o q2 aL L0 L1 kAL kIL wL0 wL1 aU U0 U1 kAU kIU wU0 wU1 aS S0 S1 kAS kIS h0) := by
  refine OwnW.Con.of (by first | decide +kernel | exact plainFor_of_name (by simp [plainName, overriddenIn])) (fun m => ef5_11 m o q2) ?_
  show GoB5_11 l Z n0 (Q5_11 Z o q2 aL L0 L1 kAL kIL wL0 wL1 aU U0 U1 kAU kIU wU0 wU1 aS S0 S1 kAS kIS h0) h0 0 0 0 #[.val (.ref o), .val (.int (1 : Int32)), .val (.int (1 : Int32)), .val (.long q2), .second] []
  refine OwnW.aloadN (pc' := 1) d5_0 rfl (rfl) rfl ?_
  refine OwnW.getF (a0 := a0) (pc' := 4) d5_1 (host := "") (Or.inl (hw _ (List.mem_of_getElem? (i := 12) rfl))) Via.refl F_lower rfl ?_
  refine OwnW.iloadN (pc' := 5) d5_4 rfl rfl ?_
  obtain ⟨cl1, Ar1, qk1, Sz1, Mn1, Hv1, Gf1⟩ := id V_aL
  refine OwnW.aaload (pc' := 6) (v := (.ref L1)) d5_5 Ar1 rfl (inb_of Sz1 ⟨by decide, by decide⟩) (Hv1.at (inb_of Sz1 ⟨by decide, by decide⟩) rfl) rfl ?_
  refine OwnW.iloadN (pc' := 7) d5_6 rfl rfl ?_
  refine OwnW.lloadN (pc' := 8) d5_7 rfl rfl ?_
  obtain ⟨cl2, Ar2, qk2, Sz2, Mn2, Hv2, Gf2⟩ := id V_L1
  refine OwnW.stJ (pc' := 9) d5_8 Ar2 (inb_of Sz2 ⟨by decide, by decide⟩) g_L1 rfl ?_
  intro h2 W2
  have sz3 : n0 ≤ h2.size := (by rw [W2.size]; exact Z0)
  have V2 : Arv Z h2 L1 kIL .long (2 : Int32) [(.long wL0), (.long q2)] (.long (0 : Int64)) := Arv.set Ar2 qk2 Sz2 Mn2 Hv2 Gf2 rfl W2 1 rfl (Nat.le_of_ble_eq_true rfl)
  refine OwnW.aloadN (pc' := 10) d5_9 rfl (rfl) rfl ?_
  have F4 := (F_upper.other W2 (Or.inl (Ne.symm d_L1_o)))
  refine OwnW.getF (a0 := a0) (pc' := 13) d5_10 (host := "") (Or.inl (hw _ (List.mem_of_getElem? (i := 14) rfl))) Via.refl F4 rfl ?_
  refine OwnW.iloadN (pc' := 14) d5_13 rfl rfl ?_
  have F5 := (V_aU.other W2 (Ne.symm d_L1_aU))
  obtain ⟨cl6, Ar6, qk6, Sz6, Mn6, Hv6, Gf6⟩ := id F5
  refine OwnW.aaload (pc' := 15) (v := (.ref U1)) d5_14 Ar6 rfl (inb_of Sz6 ⟨by decide, by decide⟩) (Hv6.at (inb_of Sz6 ⟨by decide, by decide⟩) rfl) rfl ?_
  refine OwnW.iloadN (pc' := 16) d5_15 rfl rfl ?_
  refine OwnW.ldc2J (a0 := a0) (pc' := 19) (v := (9223372036854775807 : Int64)) d5_16 (hw _ (List.mem_of_getElem? (i := 21) rfl)) rfl ?_
  have F7 := (V_U1.other W2 (Ne.symm d_L1_U1))
  obtain ⟨cl8, Ar8, qk8, Sz8, Mn8, Hv8, Gf8⟩ := id F7
  refine OwnW.stJ (pc' := 20) d5_19 Ar8 (inb_of Sz8 ⟨by decide, by decide⟩) g_U1 rfl ?_
  intro h8 W8
  have sz9 : n0 ≤ h8.size := (by rw [W8.size]; exact sz3)
  have V8 : Arv Z h8 U1 kIU .long (2 : Int32) [(.long wU0), (.long (9223372036854775807 : Int64))] (.long (0 : Int64)) := Arv.set Ar8 qk8 Sz8 Mn8 Hv8 Gf8 rfl W8 1 rfl (Nat.le_of_ble_eq_true rfl)
  refine OwnW.aloadN (pc' := 21) d5_20 rfl (rfl) rfl ?_
  have F10 := ((F_assignments.other W2 (Or.inl (Ne.symm d_L1_o))).other W8 (Or.inl (Ne.symm d_U1_o)))
  refine OwnW.getF (a0 := a0) (pc' := 24) d5_21 (host := "") (Or.inl (hw _ (List.mem_of_getElem? (i := 19) rfl))) Via.refl F10 rfl ?_
  refine OwnW.iloadN (pc' := 25) d5_24 rfl rfl ?_
  have F11 := ((V_aS.other W2 (Ne.symm d_L1_aS)).other W8 (Ne.symm d_U1_aS))
  obtain ⟨cl12, Ar12, qk12, Sz12, Mn12, Hv12, Gf12⟩ := id F11
  refine OwnW.aaload (pc' := 26) (v := (.ref S1)) d5_25 Ar12 rfl (inb_of Sz12 ⟨by decide, by decide⟩) (Hv12.at (inb_of Sz12 ⟨by decide, by decide⟩) rfl) rfl ?_
  refine OwnW.iloadN (pc' := 27) d5_26 rfl rfl ?_
  refine OwnW.aconstNull (pc' := 28) d5_27 rfl ?_
  have F13 := ((V_S1.other W2 (Ne.symm d_L1_S1)).other W8 (Ne.symm d_U1_S1))
  obtain ⟨cl14, Ar14, qk14, Sz14, Mn14, Hv14, Gf14⟩ := id F13
  refine OwnW.stR (pc' := 29) d5_28 Ar14 (inb_of Sz14 ⟨by decide, by decide⟩) rfl (Or.inl rfl) g_S1 rfl ?_
  intro h14 W14
  have sz15 : n0 ≤ h14.size := (by rw [W14.size]; exact sz9)
  have V14 : Arv Z h14 S1 kIS (.object "com/example/parley/parley/treesearch/SubtreeAssignment") (2 : Int32) [.null, .null] (.null) := Arv.set Ar14 qk14 Sz14 Mn14 Hv14 Gf14 rfl W14 1 rfl (Nat.le_of_ble_eq_true rfl)
  exact OwnW.ret0 d5_29 rfl (by decide) (by decide) (⟨rfl, ((((Keep.refl h0 [L1, U1, S1]).wr W2 (Or.inl (List.mem_of_getElem? (i := 0) rfl))).wr W8 (Or.inl (List.mem_of_getElem? (i := 1) rfl))).wr W14 (Or.inl (List.mem_of_getElem? (i := 2) rfl))), ((V2.other W8 d_L1_U1).other W14 d_L1_S1), (V8.other W14 d_U1_S1), V14⟩)
theorem d6_0 : decode prog_60_method_5_code 0 = .ok (.aload_n 0, 1) := by decide +kernel
theorem d6_1 : decode prog_60_method_5_code 1 = .ok (.getfield 9, 3) := by decide +kernel
theorem d6_4 : decode prog_60_method_5_code 4 = .ok (.iload_n 1, 1) := by decide +kernel
theorem d6_5 : decode prog_60_method_5_code 5 = .ok (.aaload, 1) := by decide +kernel
theorem d6_6 : decode prog_60_method_5_code 6 = .ok (.iload_n 2, 1) := by decide +kernel
theorem d6_7 : decode prog_60_method_5_code 7 = .ok (.laload, 1) := by decide +kernel
theorem d6_8 : decode prog_60_method_5_code 8 = .ok (.lreturn, 1) := by decide +kernel
def f6_00 (o : Addr) (aL : Addr) (L0 : Addr) (L1 : Addr) (kAL : ClassId) (kIL : ClassId) (wL0 : Int64) (wL1 : Int64) : Int64 := wL0
abbrev GoB6_00 (l : Launch) (Z : State) (n0 : Nat) (Q : Option Value → Heap → Prop) := Go l Z ({ frames := 0, cells := 0, slots := 0, locals := 0 } : Room) (⟨"com/example/parley/parley/treesearch/ChildBounds", "lower", "(II)J"⟩ : MethodName) prog_60_method_5_code 3 (some .long) n0 Q
theorem ef6_00 (m : MethodId) (o : Addr) : entryFrame m #[(.ref o), (.int (0 : Int32)), (.int (0 : Int32))] 3 = mkF m 0 #[.val (.ref o), .val (.int (0 : Int32)), .val (.int (0 : Int32))] [] := by first | (simp [entryFrame, mkF, argsToLocals, Value.category]; done) | rfl
set_option maxRecDepth 65536 in
set_option maxHeartbeats 40000000 in
theorem rm6_00 (l : Launch) (Z : State) (a0 : Array Value) (hw : ∀ d ∈ tables_1, d.before a0 Z = true) (o : Addr) (aL : Addr) (L0 : Addr) (L1 : Addr) (kAL : ClassId) (kIL : ClassId) (wL0 : Int64) (wL1 : Int64) (h0 : Heap) (n0 : Nat) (F_lower : Fld Z h0 o "com/example/parley/parley/treesearch/ChildBounds" "lower" "[[J" (.ref aL)) (V_aL : Arv Z h0 aL kAL (.array .long) (2 : Int32) [(.ref L0), (.ref L1)] (.null)) (V_L0 : Arv Z h0 L0 kIL .long (2 : Int32) [(.long wL0), (.long wL1)] (.long (0 : Int64))) :
    Con l Z ({ frames := 0, cells := 0, slots := 0, locals := 0 } : Room) (⟨"com/example/parley/parley/treesearch/ChildBounds", "lower", "(II)J"⟩ : MethodName) prog_60_method_5_code 3 (some .long) n0 #[(.ref o), (.int (0 : Int32)), (.int (0 : Int32))] h0 (OwnW.Ret (some (.long (f6_00 o aL L0 L1 kAL kIL wL0 wL1))) h0) := by
  refine OwnW.Con.of (by first | decide +kernel | exact plainFor_of_name (by simp [plainName, overriddenIn])) (fun m => ef6_00 m o) ?_
  show GoB6_00 l Z n0 (OwnW.Ret (some (.long (f6_00 o aL L0 L1 kAL kIL wL0 wL1))) h0) h0 0 0 0 #[.val (.ref o), .val (.int (0 : Int32)), .val (.int (0 : Int32))] []
  refine OwnW.aloadN (pc' := 1) d6_0 rfl (rfl) rfl ?_
  refine OwnW.getF (a0 := a0) (pc' := 4) d6_1 (host := "") (Or.inl (hw _ (List.mem_of_getElem? (i := 12) rfl))) Via.refl F_lower rfl ?_
  refine OwnW.iloadN (pc' := 5) d6_4 rfl rfl ?_
  obtain ⟨cl1, Ar1, qk1, Sz1, Mn1, Hv1, Gf1⟩ := id V_aL
  refine OwnW.aaload (pc' := 6) (v := (.ref L0)) d6_5 Ar1 rfl (inb_of Sz1 ⟨by decide, by decide⟩) (Hv1.at (inb_of Sz1 ⟨by decide, by decide⟩) rfl) rfl ?_
  refine OwnW.iloadN (pc' := 7) d6_6 rfl rfl ?_
  obtain ⟨cl2, Ar2, qk2, Sz2, Mn2, Hv2, Gf2⟩ := id V_L0
  refine OwnW.laload (pc' := 8) (v := (.long wL0)) d6_7 Ar2 (inb_of Sz2 ⟨by decide, by decide⟩) (Hv2.at (inb_of Sz2 ⟨by decide, by decide⟩) rfl) rfl ?_
  exact OwnW.retJ d6_8 rfl (by decide) (by decide) (⟨by first | (simp only [f6_00]; done) | (simp only [f6_00]; rfl), rfl⟩)
def f6_01 (o : Addr) (aL : Addr) (L0 : Addr) (L1 : Addr) (kAL : ClassId) (kIL : ClassId) (wL0 : Int64) (wL1 : Int64) : Int64 := wL1
abbrev GoB6_01 (l : Launch) (Z : State) (n0 : Nat) (Q : Option Value → Heap → Prop) := Go l Z ({ frames := 0, cells := 0, slots := 0, locals := 0 } : Room) (⟨"com/example/parley/parley/treesearch/ChildBounds", "lower", "(II)J"⟩ : MethodName) prog_60_method_5_code 3 (some .long) n0 Q
theorem ef6_01 (m : MethodId) (o : Addr) : entryFrame m #[(.ref o), (.int (0 : Int32)), (.int (1 : Int32))] 3 = mkF m 0 #[.val (.ref o), .val (.int (0 : Int32)), .val (.int (1 : Int32))] [] := by first | (simp [entryFrame, mkF, argsToLocals, Value.category]; done) | rfl
set_option maxRecDepth 65536 in
set_option maxHeartbeats 40000000 in
theorem rm6_01 (l : Launch) (Z : State) (a0 : Array Value) (hw : ∀ d ∈ tables_1, d.before a0 Z = true) (o : Addr) (aL : Addr) (L0 : Addr) (L1 : Addr) (kAL : ClassId) (kIL : ClassId) (wL0 : Int64) (wL1 : Int64) (h0 : Heap) (n0 : Nat) (F_lower : Fld Z h0 o "com/example/parley/parley/treesearch/ChildBounds" "lower" "[[J" (.ref aL)) (V_aL : Arv Z h0 aL kAL (.array .long) (2 : Int32) [(.ref L0), (.ref L1)] (.null)) (V_L0 : Arv Z h0 L0 kIL .long (2 : Int32) [(.long wL0), (.long wL1)] (.long (0 : Int64))) :
    Con l Z ({ frames := 0, cells := 0, slots := 0, locals := 0 } : Room) (⟨"com/example/parley/parley/treesearch/ChildBounds", "lower", "(II)J"⟩ : MethodName) prog_60_method_5_code 3 (some .long) n0 #[(.ref o), (.int (0 : Int32)), (.int (1 : Int32))] h0 (OwnW.Ret (some (.long (f6_01 o aL L0 L1 kAL kIL wL0 wL1))) h0) := by
  refine OwnW.Con.of (by first | decide +kernel | exact plainFor_of_name (by simp [plainName, overriddenIn])) (fun m => ef6_01 m o) ?_
  show GoB6_01 l Z n0 (OwnW.Ret (some (.long (f6_01 o aL L0 L1 kAL kIL wL0 wL1))) h0) h0 0 0 0 #[.val (.ref o), .val (.int (0 : Int32)), .val (.int (1 : Int32))] []
  refine OwnW.aloadN (pc' := 1) d6_0 rfl (rfl) rfl ?_
  refine OwnW.getF (a0 := a0) (pc' := 4) d6_1 (host := "") (Or.inl (hw _ (List.mem_of_getElem? (i := 12) rfl))) Via.refl F_lower rfl ?_
  refine OwnW.iloadN (pc' := 5) d6_4 rfl rfl ?_
  obtain ⟨cl1, Ar1, qk1, Sz1, Mn1, Hv1, Gf1⟩ := id V_aL
  refine OwnW.aaload (pc' := 6) (v := (.ref L0)) d6_5 Ar1 rfl (inb_of Sz1 ⟨by decide, by decide⟩) (Hv1.at (inb_of Sz1 ⟨by decide, by decide⟩) rfl) rfl ?_
  refine OwnW.iloadN (pc' := 7) d6_6 rfl rfl ?_
  obtain ⟨cl2, Ar2, qk2, Sz2, Mn2, Hv2, Gf2⟩ := id V_L0
  refine OwnW.laload (pc' := 8) (v := (.long wL1)) d6_7 Ar2 (inb_of Sz2 ⟨by decide, by decide⟩) (Hv2.at (inb_of Sz2 ⟨by decide, by decide⟩) rfl) rfl ?_
  exact OwnW.retJ d6_8 rfl (by decide) (by decide) (⟨by first | (simp only [f6_01]; done) | (simp only [f6_01]; rfl), rfl⟩)
def f6_10 (o : Addr) (aL : Addr) (L0 : Addr) (L1 : Addr) (kAL : ClassId) (kIL : ClassId) (wL0 : Int64) (wL1 : Int64) : Int64 := wL0
abbrev GoB6_10 (l : Launch) (Z : State) (n0 : Nat) (Q : Option Value → Heap → Prop) := Go l Z ({ frames := 0, cells := 0, slots := 0, locals := 0 } : Room) (⟨"com/example/parley/parley/treesearch/ChildBounds", "lower", "(II)J"⟩ : MethodName) prog_60_method_5_code 3 (some .long) n0 Q
theorem ef6_10 (m : MethodId) (o : Addr) : entryFrame m #[(.ref o), (.int (1 : Int32)), (.int (0 : Int32))] 3 = mkF m 0 #[.val (.ref o), .val (.int (1 : Int32)), .val (.int (0 : Int32))] [] := by first | (simp [entryFrame, mkF, argsToLocals, Value.category]; done) | rfl
set_option maxRecDepth 65536 in
set_option maxHeartbeats 40000000 in
theorem rm6_10 (l : Launch) (Z : State) (a0 : Array Value) (hw : ∀ d ∈ tables_1, d.before a0 Z = true) (o : Addr) (aL : Addr) (L0 : Addr) (L1 : Addr) (kAL : ClassId) (kIL : ClassId) (wL0 : Int64) (wL1 : Int64) (h0 : Heap) (n0 : Nat) (F_lower : Fld Z h0 o "com/example/parley/parley/treesearch/ChildBounds" "lower" "[[J" (.ref aL)) (V_aL : Arv Z h0 aL kAL (.array .long) (2 : Int32) [(.ref L0), (.ref L1)] (.null)) (V_L1 : Arv Z h0 L1 kIL .long (2 : Int32) [(.long wL0), (.long wL1)] (.long (0 : Int64))) :
    Con l Z ({ frames := 0, cells := 0, slots := 0, locals := 0 } : Room) (⟨"com/example/parley/parley/treesearch/ChildBounds", "lower", "(II)J"⟩ : MethodName) prog_60_method_5_code 3 (some .long) n0 #[(.ref o), (.int (1 : Int32)), (.int (0 : Int32))] h0 (OwnW.Ret (some (.long (f6_10 o aL L0 L1 kAL kIL wL0 wL1))) h0) := by
  refine OwnW.Con.of (by first | decide +kernel | exact plainFor_of_name (by simp [plainName, overriddenIn])) (fun m => ef6_10 m o) ?_
  show GoB6_10 l Z n0 (OwnW.Ret (some (.long (f6_10 o aL L0 L1 kAL kIL wL0 wL1))) h0) h0 0 0 0 #[.val (.ref o), .val (.int (1 : Int32)), .val (.int (0 : Int32))] []
  refine OwnW.aloadN (pc' := 1) d6_0 rfl (rfl) rfl ?_
  refine OwnW.getF (a0 := a0) (pc' := 4) d6_1 (host := "") (Or.inl (hw _ (List.mem_of_getElem? (i := 12) rfl))) Via.refl F_lower rfl ?_
  refine OwnW.iloadN (pc' := 5) d6_4 rfl rfl ?_
  obtain ⟨cl1, Ar1, qk1, Sz1, Mn1, Hv1, Gf1⟩ := id V_aL
  refine OwnW.aaload (pc' := 6) (v := (.ref L1)) d6_5 Ar1 rfl (inb_of Sz1 ⟨by decide, by decide⟩) (Hv1.at (inb_of Sz1 ⟨by decide, by decide⟩) rfl) rfl ?_
  refine OwnW.iloadN (pc' := 7) d6_6 rfl rfl ?_
  obtain ⟨cl2, Ar2, qk2, Sz2, Mn2, Hv2, Gf2⟩ := id V_L1
  refine OwnW.laload (pc' := 8) (v := (.long wL0)) d6_7 Ar2 (inb_of Sz2 ⟨by decide, by decide⟩) (Hv2.at (inb_of Sz2 ⟨by decide, by decide⟩) rfl) rfl ?_
  exact OwnW.retJ d6_8 rfl (by decide) (by decide) (⟨by first | (simp only [f6_10]; done) | (simp only [f6_10]; rfl), rfl⟩)
def f6_11 (o : Addr) (aL : Addr) (L0 : Addr) (L1 : Addr) (kAL : ClassId) (kIL : ClassId) (wL0 : Int64) (wL1 : Int64) : Int64 := wL1
abbrev GoB6_11 (l : Launch) (Z : State) (n0 : Nat) (Q : Option Value → Heap → Prop) := Go l Z ({ frames := 0, cells := 0, slots := 0, locals := 0 } : Room) (⟨"com/example/parley/parley/treesearch/ChildBounds", "lower", "(II)J"⟩ : MethodName) prog_60_method_5_code 3 (some .long) n0 Q
theorem ef6_11 (m : MethodId) (o : Addr) : entryFrame m #[(.ref o), (.int (1 : Int32)), (.int (1 : Int32))] 3 = mkF m 0 #[.val (.ref o), .val (.int (1 : Int32)), .val (.int (1 : Int32))] [] := by first | (simp [entryFrame, mkF, argsToLocals, Value.category]; done) | rfl
set_option maxRecDepth 65536 in
set_option maxHeartbeats 40000000 in
theorem rm6_11 (l : Launch) (Z : State) (a0 : Array Value) (hw : ∀ d ∈ tables_1, d.before a0 Z = true) (o : Addr) (aL : Addr) (L0 : Addr) (L1 : Addr) (kAL : ClassId) (kIL : ClassId) (wL0 : Int64) (wL1 : Int64) (h0 : Heap) (n0 : Nat) (F_lower : Fld Z h0 o "com/example/parley/parley/treesearch/ChildBounds" "lower" "[[J" (.ref aL)) (V_aL : Arv Z h0 aL kAL (.array .long) (2 : Int32) [(.ref L0), (.ref L1)] (.null)) (V_L1 : Arv Z h0 L1 kIL .long (2 : Int32) [(.long wL0), (.long wL1)] (.long (0 : Int64))) :
    Con l Z ({ frames := 0, cells := 0, slots := 0, locals := 0 } : Room) (⟨"com/example/parley/parley/treesearch/ChildBounds", "lower", "(II)J"⟩ : MethodName) prog_60_method_5_code 3 (some .long) n0 #[(.ref o), (.int (1 : Int32)), (.int (1 : Int32))] h0 (OwnW.Ret (some (.long (f6_11 o aL L0 L1 kAL kIL wL0 wL1))) h0) := by
  refine OwnW.Con.of (by first | decide +kernel | exact plainFor_of_name (by simp [plainName, overriddenIn])) (fun m => ef6_11 m o) ?_
  show GoB6_11 l Z n0 (OwnW.Ret (some (.long (f6_11 o aL L0 L1 kAL kIL wL0 wL1))) h0) h0 0 0 0 #[.val (.ref o), .val (.int (1 : Int32)), .val (.int (1 : Int32))] []
  refine OwnW.aloadN (pc' := 1) d6_0 rfl (rfl) rfl ?_
  refine OwnW.getF (a0 := a0) (pc' := 4) d6_1 (host := "") (Or.inl (hw _ (List.mem_of_getElem? (i := 12) rfl))) Via.refl F_lower rfl ?_
  refine OwnW.iloadN (pc' := 5) d6_4 rfl rfl ?_
  obtain ⟨cl1, Ar1, qk1, Sz1, Mn1, Hv1, Gf1⟩ := id V_aL
  refine OwnW.aaload (pc' := 6) (v := (.ref L1)) d6_5 Ar1 rfl (inb_of Sz1 ⟨by decide, by decide⟩) (Hv1.at (inb_of Sz1 ⟨by decide, by decide⟩) rfl) rfl ?_
  refine OwnW.iloadN (pc' := 7) d6_6 rfl rfl ?_
  obtain ⟨cl2, Ar2, qk2, Sz2, Mn2, Hv2, Gf2⟩ := id V_L1
  refine OwnW.laload (pc' := 8) (v := (.long wL1)) d6_7 Ar2 (inb_of Sz2 ⟨by decide, by decide⟩) (Hv2.at (inb_of Sz2 ⟨by decide, by decide⟩) rfl) rfl ?_
  exact OwnW.retJ d6_8 rfl (by decide) (by decide) (⟨by first | (simp only [f6_11]; done) | (simp only [f6_11]; rfl), rfl⟩)
theorem d7_0 : decode prog_60_method_6_code 0 = .ok (.aload_n 0, 1) := by decide +kernel
theorem d7_1 : decode prog_60_method_6_code 1 = .ok (.getfield 14, 3) := by decide +kernel
theorem d7_4 : decode prog_60_method_6_code 4 = .ok (.iload_n 1, 1) := by decide +kernel
theorem d7_5 : decode prog_60_method_6_code 5 = .ok (.aaload, 1) := by decide +kernel
theorem d7_6 : decode prog_60_method_6_code 6 = .ok (.iload_n 2, 1) := by decide +kernel
theorem d7_7 : decode prog_60_method_6_code 7 = .ok (.laload, 1) := by decide +kernel
theorem d7_8 : decode prog_60_method_6_code 8 = .ok (.lreturn, 1) := by decide +kernel
def f7_00 (o : Addr) (aU : Addr) (U0 : Addr) (U1 : Addr) (kAU : ClassId) (kIU : ClassId) (wU0 : Int64) (wU1 : Int64) : Int64 := wU0
abbrev GoB7_00 (l : Launch) (Z : State) (n0 : Nat) (Q : Option Value → Heap → Prop) := Go l Z ({ frames := 0, cells := 0, slots := 0, locals := 0 } : Room) (⟨"com/example/parley/parley/treesearch/ChildBounds", "upper", "(II)J"⟩ : MethodName) prog_60_method_6_code 3 (some .long) n0 Q
theorem ef7_00 (m : MethodId) (o : Addr) : entryFrame m #[(.ref o), (.int (0 : Int32)), (.int (0 : Int32))] 3 = mkF m 0 #[.val (.ref o), .val (.int (0 : Int32)), .val (.int (0 : Int32))] [] := by first | (simp [entryFrame, mkF, argsToLocals, Value.category]; done) | rfl
set_option maxRecDepth 65536 in
set_option maxHeartbeats 40000000 in
theorem rm7_00 (l : Launch) (Z : State) (a0 : Array Value) (hw : ∀ d ∈ tables_1, d.before a0 Z = true) (o : Addr) (aU : Addr) (U0 : Addr) (U1 : Addr) (kAU : ClassId) (kIU : ClassId) (wU0 : Int64) (wU1 : Int64) (h0 : Heap) (n0 : Nat) (F_upper : Fld Z h0 o "com/example/parley/parley/treesearch/ChildBounds" "upper" "[[J" (.ref aU)) (V_aU : Arv Z h0 aU kAU (.array .long) (2 : Int32) [(.ref U0), (.ref U1)] (.null)) (V_U0 : Arv Z h0 U0 kIU .long (2 : Int32) [(.long wU0), (.long wU1)] (.long (0 : Int64))) :
    Con l Z ({ frames := 0, cells := 0, slots := 0, locals := 0 } : Room) (⟨"com/example/parley/parley/treesearch/ChildBounds", "upper", "(II)J"⟩ : MethodName) prog_60_method_6_code 3 (some .long) n0 #[(.ref o), (.int (0 : Int32)), (.int (0 : Int32))] h0 (OwnW.Ret (some (.long (f7_00 o aU U0 U1 kAU kIU wU0 wU1))) h0) := by
  refine OwnW.Con.of (by first | decide +kernel | exact plainFor_of_name (by simp [plainName, overriddenIn])) (fun m => ef7_00 m o) ?_
  show GoB7_00 l Z n0 (OwnW.Ret (some (.long (f7_00 o aU U0 U1 kAU kIU wU0 wU1))) h0) h0 0 0 0 #[.val (.ref o), .val (.int (0 : Int32)), .val (.int (0 : Int32))] []
  refine OwnW.aloadN (pc' := 1) d7_0 rfl (rfl) rfl ?_
  refine OwnW.getF (a0 := a0) (pc' := 4) d7_1 (host := "") (Or.inl (hw _ (List.mem_of_getElem? (i := 14) rfl))) Via.refl F_upper rfl ?_
  refine OwnW.iloadN (pc' := 5) d7_4 rfl rfl ?_
  obtain ⟨cl1, Ar1, qk1, Sz1, Mn1, Hv1, Gf1⟩ := id V_aU
  refine OwnW.aaload (pc' := 6) (v := (.ref U0)) d7_5 Ar1 rfl (inb_of Sz1 ⟨by decide, by decide⟩) (Hv1.at (inb_of Sz1 ⟨by decide, by decide⟩) rfl) rfl ?_
  refine OwnW.iloadN (pc' := 7) d7_6 rfl rfl ?_
  obtain ⟨cl2, Ar2, qk2, Sz2, Mn2, Hv2, Gf2⟩ := id V_U0
  refine OwnW.laload (pc' := 8) (v := (.long wU0)) d7_7 Ar2 (inb_of Sz2 ⟨by decide, by decide⟩) (Hv2.at (inb_of Sz2 ⟨by decide, by decide⟩) rfl) rfl ?_
  exact OwnW.retJ d7_8 rfl (by decide) (by decide) (⟨by first | (simp only [f7_00]; done) | (simp only [f7_00]; rfl), rfl⟩)
def f7_01 (o : Addr) (aU : Addr) (U0 : Addr) (U1 : Addr) (kAU : ClassId) (kIU : ClassId) (wU0 : Int64) (wU1 : Int64) : Int64 := wU1
abbrev GoB7_01 (l : Launch) (Z : State) (n0 : Nat) (Q : Option Value → Heap → Prop) := Go l Z ({ frames := 0, cells := 0, slots := 0, locals := 0 } : Room) (⟨"com/example/parley/parley/treesearch/ChildBounds", "upper", "(II)J"⟩ : MethodName) prog_60_method_6_code 3 (some .long) n0 Q
theorem ef7_01 (m : MethodId) (o : Addr) : entryFrame m #[(.ref o), (.int (0 : Int32)), (.int (1 : Int32))] 3 = mkF m 0 #[.val (.ref o), .val (.int (0 : Int32)), .val (.int (1 : Int32))] [] := by first | (simp [entryFrame, mkF, argsToLocals, Value.category]; done) | rfl
set_option maxRecDepth 65536 in
set_option maxHeartbeats 40000000 in
theorem rm7_01 (l : Launch) (Z : State) (a0 : Array Value) (hw : ∀ d ∈ tables_1, d.before a0 Z = true) (o : Addr) (aU : Addr) (U0 : Addr) (U1 : Addr) (kAU : ClassId) (kIU : ClassId) (wU0 : Int64) (wU1 : Int64) (h0 : Heap) (n0 : Nat) (F_upper : Fld Z h0 o "com/example/parley/parley/treesearch/ChildBounds" "upper" "[[J" (.ref aU)) (V_aU : Arv Z h0 aU kAU (.array .long) (2 : Int32) [(.ref U0), (.ref U1)] (.null)) (V_U0 : Arv Z h0 U0 kIU .long (2 : Int32) [(.long wU0), (.long wU1)] (.long (0 : Int64))) :
    Con l Z ({ frames := 0, cells := 0, slots := 0, locals := 0 } : Room) (⟨"com/example/parley/parley/treesearch/ChildBounds", "upper", "(II)J"⟩ : MethodName) prog_60_method_6_code 3 (some .long) n0 #[(.ref o), (.int (0 : Int32)), (.int (1 : Int32))] h0 (OwnW.Ret (some (.long (f7_01 o aU U0 U1 kAU kIU wU0 wU1))) h0) := by
  refine OwnW.Con.of (by first | decide +kernel | exact plainFor_of_name (by simp [plainName, overriddenIn])) (fun m => ef7_01 m o) ?_
  show GoB7_01 l Z n0 (OwnW.Ret (some (.long (f7_01 o aU U0 U1 kAU kIU wU0 wU1))) h0) h0 0 0 0 #[.val (.ref o), .val (.int (0 : Int32)), .val (.int (1 : Int32))] []
  refine OwnW.aloadN (pc' := 1) d7_0 rfl (rfl) rfl ?_
  refine OwnW.getF (a0 := a0) (pc' := 4) d7_1 (host := "") (Or.inl (hw _ (List.mem_of_getElem? (i := 14) rfl))) Via.refl F_upper rfl ?_
  refine OwnW.iloadN (pc' := 5) d7_4 rfl rfl ?_
  obtain ⟨cl1, Ar1, qk1, Sz1, Mn1, Hv1, Gf1⟩ := id V_aU
  refine OwnW.aaload (pc' := 6) (v := (.ref U0)) d7_5 Ar1 rfl (inb_of Sz1 ⟨by decide, by decide⟩) (Hv1.at (inb_of Sz1 ⟨by decide, by decide⟩) rfl) rfl ?_
  refine OwnW.iloadN (pc' := 7) d7_6 rfl rfl ?_
  obtain ⟨cl2, Ar2, qk2, Sz2, Mn2, Hv2, Gf2⟩ := id V_U0
  refine OwnW.laload (pc' := 8) (v := (.long wU1)) d7_7 Ar2 (inb_of Sz2 ⟨by decide, by decide⟩) (Hv2.at (inb_of Sz2 ⟨by decide, by decide⟩) rfl) rfl ?_
  exact OwnW.retJ d7_8 rfl (by decide) (by decide) (⟨by first | (simp only [f7_01]; done) | (simp only [f7_01]; rfl), rfl⟩)
def f7_10 (o : Addr) (aU : Addr) (U0 : Addr) (U1 : Addr) (kAU : ClassId) (kIU : ClassId) (wU0 : Int64) (wU1 : Int64) : Int64 := wU0
abbrev GoB7_10 (l : Launch) (Z : State) (n0 : Nat) (Q : Option Value → Heap → Prop) := Go l Z ({ frames := 0, cells := 0, slots := 0, locals := 0 } : Room) (⟨"com/example/parley/parley/treesearch/ChildBounds", "upper", "(II)J"⟩ : MethodName) prog_60_method_6_code 3 (some .long) n0 Q
theorem ef7_10 (m : MethodId) (o : Addr) : entryFrame m #[(.ref o), (.int (1 : Int32)), (.int (0 : Int32))] 3 = mkF m 0 #[.val (.ref o), .val (.int (1 : Int32)), .val (.int (0 : Int32))] [] := by first | (simp [entryFrame, mkF, argsToLocals, Value.category]; done) | rfl
set_option maxRecDepth 65536 in
set_option maxHeartbeats 40000000 in
theorem rm7_10 (l : Launch) (Z : State) (a0 : Array Value) (hw : ∀ d ∈ tables_1, d.before a0 Z = true) (o : Addr) (aU : Addr) (U0 : Addr) (U1 : Addr) (kAU : ClassId) (kIU : ClassId) (wU0 : Int64) (wU1 : Int64) (h0 : Heap) (n0 : Nat) (F_upper : Fld Z h0 o "com/example/parley/parley/treesearch/ChildBounds" "upper" "[[J" (.ref aU)) (V_aU : Arv Z h0 aU kAU (.array .long) (2 : Int32) [(.ref U0), (.ref U1)] (.null)) (V_U1 : Arv Z h0 U1 kIU .long (2 : Int32) [(.long wU0), (.long wU1)] (.long (0 : Int64))) :
    Con l Z ({ frames := 0, cells := 0, slots := 0, locals := 0 } : Room) (⟨"com/example/parley/parley/treesearch/ChildBounds", "upper", "(II)J"⟩ : MethodName) prog_60_method_6_code 3 (some .long) n0 #[(.ref o), (.int (1 : Int32)), (.int (0 : Int32))] h0 (OwnW.Ret (some (.long (f7_10 o aU U0 U1 kAU kIU wU0 wU1))) h0) := by
  refine OwnW.Con.of (by first | decide +kernel | exact plainFor_of_name (by simp [plainName, overriddenIn])) (fun m => ef7_10 m o) ?_
  show GoB7_10 l Z n0 (OwnW.Ret (some (.long (f7_10 o aU U0 U1 kAU kIU wU0 wU1))) h0) h0 0 0 0 #[.val (.ref o), .val (.int (1 : Int32)), .val (.int (0 : Int32))] []
  refine OwnW.aloadN (pc' := 1) d7_0 rfl (rfl) rfl ?_
  refine OwnW.getF (a0 := a0) (pc' := 4) d7_1 (host := "") (Or.inl (hw _ (List.mem_of_getElem? (i := 14) rfl))) Via.refl F_upper rfl ?_
  refine OwnW.iloadN (pc' := 5) d7_4 rfl rfl ?_
  obtain ⟨cl1, Ar1, qk1, Sz1, Mn1, Hv1, Gf1⟩ := id V_aU
  refine OwnW.aaload (pc' := 6) (v := (.ref U1)) d7_5 Ar1 rfl (inb_of Sz1 ⟨by decide, by decide⟩) (Hv1.at (inb_of Sz1 ⟨by decide, by decide⟩) rfl) rfl ?_
  refine OwnW.iloadN (pc' := 7) d7_6 rfl rfl ?_
  obtain ⟨cl2, Ar2, qk2, Sz2, Mn2, Hv2, Gf2⟩ := id V_U1
  refine OwnW.laload (pc' := 8) (v := (.long wU0)) d7_7 Ar2 (inb_of Sz2 ⟨by decide, by decide⟩) (Hv2.at (inb_of Sz2 ⟨by decide, by decide⟩) rfl) rfl ?_
  exact OwnW.retJ d7_8 rfl (by decide) (by decide) (⟨by first | (simp only [f7_10]; done) | (simp only [f7_10]; rfl), rfl⟩)
def f7_11 (o : Addr) (aU : Addr) (U0 : Addr) (U1 : Addr) (kAU : ClassId) (kIU : ClassId) (wU0 : Int64) (wU1 : Int64) : Int64 := wU1
abbrev GoB7_11 (l : Launch) (Z : State) (n0 : Nat) (Q : Option Value → Heap → Prop) := Go l Z ({ frames := 0, cells := 0, slots := 0, locals := 0 } : Room) (⟨"com/example/parley/parley/treesearch/ChildBounds", "upper", "(II)J"⟩ : MethodName) prog_60_method_6_code 3 (some .long) n0 Q
theorem ef7_11 (m : MethodId) (o : Addr) : entryFrame m #[(.ref o), (.int (1 : Int32)), (.int (1 : Int32))] 3 = mkF m 0 #[.val (.ref o), .val (.int (1 : Int32)), .val (.int (1 : Int32))] [] := by first | (simp [entryFrame, mkF, argsToLocals, Value.category]; done) | rfl
set_option maxRecDepth 65536 in
set_option maxHeartbeats 40000000 in
theorem rm7_11 (l : Launch) (Z : State) (a0 : Array Value) (hw : ∀ d ∈ tables_1, d.before a0 Z = true) (o : Addr) (aU : Addr) (U0 : Addr) (U1 : Addr) (kAU : ClassId) (kIU : ClassId) (wU0 : Int64) (wU1 : Int64) (h0 : Heap) (n0 : Nat) (F_upper : Fld Z h0 o "com/example/parley/parley/treesearch/ChildBounds" "upper" "[[J" (.ref aU)) (V_aU : Arv Z h0 aU kAU (.array .long) (2 : Int32) [(.ref U0), (.ref U1)] (.null)) (V_U1 : Arv Z h0 U1 kIU .long (2 : Int32) [(.long wU0), (.long wU1)] (.long (0 : Int64))) :
    Con l Z ({ frames := 0, cells := 0, slots := 0, locals := 0 } : Room) (⟨"com/example/parley/parley/treesearch/ChildBounds", "upper", "(II)J"⟩ : MethodName) prog_60_method_6_code 3 (some .long) n0 #[(.ref o), (.int (1 : Int32)), (.int (1 : Int32))] h0 (OwnW.Ret (some (.long (f7_11 o aU U0 U1 kAU kIU wU0 wU1))) h0) := by
  refine OwnW.Con.of (by first | decide +kernel | exact plainFor_of_name (by simp [plainName, overriddenIn])) (fun m => ef7_11 m o) ?_
  show GoB7_11 l Z n0 (OwnW.Ret (some (.long (f7_11 o aU U0 U1 kAU kIU wU0 wU1))) h0) h0 0 0 0 #[.val (.ref o), .val (.int (1 : Int32)), .val (.int (1 : Int32))] []
  refine OwnW.aloadN (pc' := 1) d7_0 rfl (rfl) rfl ?_
  refine OwnW.getF (a0 := a0) (pc' := 4) d7_1 (host := "") (Or.inl (hw _ (List.mem_of_getElem? (i := 14) rfl))) Via.refl F_upper rfl ?_
  refine OwnW.iloadN (pc' := 5) d7_4 rfl rfl ?_
  obtain ⟨cl1, Ar1, qk1, Sz1, Mn1, Hv1, Gf1⟩ := id V_aU
  refine OwnW.aaload (pc' := 6) (v := (.ref U1)) d7_5 Ar1 rfl (inb_of Sz1 ⟨by decide, by decide⟩) (Hv1.at (inb_of Sz1 ⟨by decide, by decide⟩) rfl) rfl ?_
  refine OwnW.iloadN (pc' := 7) d7_6 rfl rfl ?_
  obtain ⟨cl2, Ar2, qk2, Sz2, Mn2, Hv2, Gf2⟩ := id V_U1
  refine OwnW.laload (pc' := 8) (v := (.long wU1)) d7_7 Ar2 (inb_of Sz2 ⟨by decide, by decide⟩) (Hv2.at (inb_of Sz2 ⟨by decide, by decide⟩) rfl) rfl ?_
  exact OwnW.retJ d7_8 rfl (by decide) (by decide) (⟨by first | (simp only [f7_11]; done) | (simp only [f7_11]; rfl), rfl⟩)

theorem own_c {sel c : Int32} (hc : c = (sel &&& (1 : Int32))) : c = (0 : Int32) ∨ c = (1 : Int32) := by rw [hc]; exact and_one sel
theorem own_v {x v : Int32} (hv : v = (x &&& (1 : Int32))) : v = (0 : Int32) ∨ v = (1 : Int32) := by rw [hv]; exact and_one x
theorem own_r {x r : Int32} (hr : r = ((x &&& (3 : Int32)) % (3 : Int32))) : r = (0 : Int32) ∨ r = (1 : Int32) ∨ r = (2 : Int32) := by
  have e := c_mask x 3 2 (by decide) (by decide)
  have q := (c_irem (x &&& 3) 3 3 (by decide)).1 (by omega)
  rw [← hr] at q
  have b : r.toInt = 0 ∨ r.toInt = 1 ∨ r.toInt = 2 := by omega
  simpa [← Int32.toInt_inj] using b

abbrev GoB0 (l : Launch) (Z : State) (n0 : Nat) (Q : Option Value → Heap → Prop) := Go l Z room_1 x code maxLocals ret n0 Q
theorem ef0 (m : MethodId) (sel : Int32) (est : Int64) (lo1 : Int64) (up1 : Int64) (lo2 : Int64) (up2 : Int64) : entryFrame m #[(.int sel), (.long est), (.long lo1), (.long up1), (.long lo2), (.long up2)] maxLocals = mkF m 0 #[.val (.int sel), .val (.long est), .second, .val (.long lo1), .second, .val (.long up1), .second, .val (.long lo2), .second, .val (.long up2), .second, .unset, .unset, .unset, .unset, .unset, .unset, .unset, .unset] [] := by first | (simp [entryFrame, mkF, argsToLocals, Value.category, maxLocals]; done) | rfl
set_option maxRecDepth 65536 in
set_option maxHeartbeats 400000000 in
theorem rm0 (l : Launch) (Z : State) (a0 : Array Value) (hw : ∀ d ∈ tables_1, d.before a0 Z = true) (sel : Int32) (est : Int64) (lo1 : Int64) (up1 : Int64) (lo2 : Int64) (up2 : Int64) (h0 : Heap) (n0 : Nat) (Z0 : n0 ≤ h0.size) :
    Con l Z room_1 x code maxLocals ret n0 #[(.int sel), (.long est), (.long lo1), (.long up1), (.long lo2), (.long up2)] h0 OwnW.One1 := by
  refine OwnW.Con.of (by first | decide +kernel | exact plainFor_of_name (by simp [x, plainName, overriddenIn])) (fun m => ef0 m sel est lo1 up1 lo2 up2) ?_
  show GoB0 l Z n0 OwnW.One1 h0 0 0 0 #[.val (.int sel), .val (.long est), .second, .val (.long lo1), .second, .val (.long up1), .second, .val (.long lo2), .second, .val (.long up2), .second, .unset, .unset, .unset, .unset, .unset, .unset, .unset, .unset] []
  refine OwnW.iloadN (pc' := 1) at_0 rfl rfl ?_
  refine OwnW.iconst (pc' := 2) (v := (1 : Int32)) at_1 rfl rfl ?_
  refine OwnW.iand (pc' := 3) at_2 rfl ?_
  obtain ⟨c, hc⟩ : ∃ z, z = (sel &&& (1 : Int32)) := ⟨_, rfl⟩
  rw [← hc]
  show GoB0 l Z n0 OwnW.One1 h0 0 0 3 #[.val (.int sel), .val (.long est), .second, .val (.long lo1), .second, .val (.long up1), .second, .val (.long lo2), .second, .val (.long up2), .second, .unset, .unset, .unset, .unset, .unset, .unset, .unset, .unset] [(.int c)]
  rcases (own_c hc) with rfl | rfl
  ·
    show GoB0 l Z n0 OwnW.One1 h0 0 0 3 #[.val (.int sel), .val (.long est), .second, .val (.long lo1), .second, .val (.long up1), .second, .val (.long lo2), .second, .val (.long up2), .second, .unset, .unset, .unset, .unset, .unset, .unset, .unset, .unset] [(.int (0 : Int32))]
    refine OwnW.istore (pc' := 5) (L' := #[.val (.int sel), .val (.long est), .second, .val (.long lo1), .second, .val (.long up1), .second, .val (.long lo2), .second, .val (.long up2), .second, .val (.int (0 : Int32)), .unset, .unset, .unset, .unset, .unset, .unset, .unset]) at_3 rfl rfl ?_
    refine OwnW.iloadN (pc' := 6) at_5 rfl rfl ?_
    refine OwnW.iconst (pc' := 7) (v := (1 : Int32)) at_6 rfl rfl ?_
    refine OwnW.iushr (pc' := 8) at_7 rfl ?_
    refine OwnW.iconst (pc' := 9) (v := (1 : Int32)) at_8 rfl rfl ?_
    refine OwnW.iand (pc' := 10) at_9 rfl ?_
    obtain ⟨v, hv⟩ : ∃ z, z = (((sel.toUInt32 >>> ((1 : Int32) &&& 31).toUInt32).toInt32) &&& (1 : Int32)) := ⟨_, rfl⟩
    rw [← hv]
    show GoB0 l Z n0 OwnW.One1 h0 0 0 10 #[.val (.int sel), .val (.long est), .second, .val (.long lo1), .second, .val (.long up1), .second, .val (.long lo2), .second, .val (.long up2), .second, .val (.int (0 : Int32)), .unset, .unset, .unset, .unset, .unset, .unset, .unset] [(.int v)]
    rcases (own_v hv) with rfl | rfl
    ·
      show GoB0 l Z n0 OwnW.One1 h0 0 0 10 #[.val (.int sel), .val (.long est), .second, .val (.long lo1), .second, .val (.long up1), .second, .val (.long lo2), .second, .val (.long up2), .second, .val (.int (0 : Int32)), .unset, .unset, .unset, .unset, .unset, .unset, .unset] [(.int (0 : Int32))]
      refine OwnW.istore (pc' := 12) (L' := #[.val (.int sel), .val (.long est), .second, .val (.long lo1), .second, .val (.long up1), .second, .val (.long lo2), .second, .val (.long up2), .second, .val (.int (0 : Int32)), .val (.int (0 : Int32)), .unset, .unset, .unset, .unset, .unset, .unset]) at_10 rfl rfl ?_
      refine OwnW.iconst (pc' := 13) (v := (2 : Int32)) at_12 rfl rfl ?_
      refine OwnW.iload (pc' := 15) at_13 rfl rfl ?_
      refine OwnW.imul (pc' := 16) at_15 rfl ?_
      show GoB0 l Z n0 OwnW.One1 h0 0 0 16 #[.val (.int sel), .val (.long est), .second, .val (.long lo1), .second, .val (.long up1), .second, .val (.long lo2), .second, .val (.long up2), .second, .val (.int (0 : Int32)), .val (.int (0 : Int32)), .unset, .unset, .unset, .unset, .unset, .unset] [(.int (0 : Int32))]
      refine OwnW.iload (pc' := 18) at_16 rfl rfl ?_
      refine OwnW.iadd (pc' := 19) at_18 rfl ?_
      show GoB0 l Z n0 OwnW.One1 h0 0 0 19 #[.val (.int sel), .val (.long est), .second, .val (.long lo1), .second, .val (.long up1), .second, .val (.long lo2), .second, .val (.long up2), .second, .val (.int (0 : Int32)), .val (.int (0 : Int32)), .unset, .unset, .unset, .unset, .unset, .unset] [(.int (0 : Int32))]
      refine OwnW.istore (pc' := 21) (L' := #[.val (.int sel), .val (.long est), .second, .val (.long lo1), .second, .val (.long up1), .second, .val (.long lo2), .second, .val (.long up2), .second, .val (.int (0 : Int32)), .val (.int (0 : Int32)), .val (.int (0 : Int32)), .unset, .unset, .unset, .unset, .unset]) at_19 rfl rfl ?_
      refine OwnW.iload (pc' := 23) at_21 rfl rfl ?_
      refine OwnW.iconst (pc' := 24) (v := (1 : Int32)) at_23 rfl rfl ?_
      refine OwnW.iadd (pc' := 25) at_24 rfl ?_
      show GoB0 l Z n0 OwnW.One1 h0 0 0 25 #[.val (.int sel), .val (.long est), .second, .val (.long lo1), .second, .val (.long up1), .second, .val (.long lo2), .second, .val (.long up2), .second, .val (.int (0 : Int32)), .val (.int (0 : Int32)), .val (.int (0 : Int32)), .unset, .unset, .unset, .unset, .unset] [(.int (1 : Int32))]
      refine OwnW.iloadN (pc' := 26) at_25 rfl rfl ?_
      refine OwnW.iconst (pc' := 27) (v := (2 : Int32)) at_26 rfl rfl ?_
      refine OwnW.iushr (pc' := 28) at_27 rfl ?_
      refine OwnW.iconst (pc' := 29) (v := (3 : Int32)) at_28 rfl rfl ?_
      refine OwnW.iand (pc' := 30) at_29 rfl ?_
      refine OwnW.iconst (pc' := 31) (v := (3 : Int32)) at_30 rfl rfl ?_
      refine OwnW.irem (pc' := 32) at_31 (by decide) rfl ?_
      obtain ⟨r, hr⟩ : ∃ z, z = ((((sel.toUInt32 >>> ((2 : Int32) &&& 31).toUInt32).toInt32) &&& (3 : Int32)) % (3 : Int32)) := ⟨_, rfl⟩
      rw [← hr]
      show GoB0 l Z n0 OwnW.One1 h0 0 0 32 #[.val (.int sel), .val (.long est), .second, .val (.long lo1), .second, .val (.long up1), .second, .val (.long lo2), .second, .val (.long up2), .second, .val (.int (0 : Int32)), .val (.int (0 : Int32)), .val (.int (0 : Int32)), .unset, .unset, .unset, .unset, .unset] [(.int r), (.int (1 : Int32))]
      rcases (own_r hr) with rfl | rfl | rfl
      ·
        show GoB0 l Z n0 OwnW.One1 h0 0 0 32 #[.val (.int sel), .val (.long est), .second, .val (.long lo1), .second, .val (.long up1), .second, .val (.long lo2), .second, .val (.long up2), .second, .val (.int (0 : Int32)), .val (.int (0 : Int32)), .val (.int (0 : Int32)), .unset, .unset, .unset, .unset, .unset] [(.int (0 : Int32)), (.int (1 : Int32))]
        refine OwnW.iadd (pc' := 33) at_32 rfl ?_
        show GoB0 l Z n0 OwnW.One1 h0 0 0 33 #[.val (.int sel), .val (.long est), .second, .val (.long lo1), .second, .val (.long up1), .second, .val (.long lo2), .second, .val (.long up2), .second, .val (.int (0 : Int32)), .val (.int (0 : Int32)), .val (.int (0 : Int32)), .unset, .unset, .unset, .unset, .unset] [(.int (1 : Int32))]
        refine OwnW.iconst (pc' := 34) (v := (3 : Int32)) at_33 rfl rfl ?_
        refine OwnW.iand (pc' := 35) at_34 rfl ?_
        show GoB0 l Z n0 OwnW.One1 h0 0 0 35 #[.val (.int sel), .val (.long est), .second, .val (.long lo1), .second, .val (.long up1), .second, .val (.long lo2), .second, .val (.long up2), .second, .val (.int (0 : Int32)), .val (.int (0 : Int32)), .val (.int (0 : Int32)), .unset, .unset, .unset, .unset, .unset] [(.int (1 : Int32))]
        refine OwnW.istore (pc' := 37) (L' := #[.val (.int sel), .val (.long est), .second, .val (.long lo1), .second, .val (.long up1), .second, .val (.long lo2), .second, .val (.long up2), .second, .val (.int (0 : Int32)), .val (.int (0 : Int32)), .val (.int (0 : Int32)), .val (.int (1 : Int32)), .unset, .unset, .unset, .unset]) at_35 rfl rfl ?_
        refine OwnW.iload (pc' := 39) at_37 rfl rfl ?_
        refine OwnW.iconst (pc' := 40) (v := (1 : Int32)) at_39 rfl rfl ?_
        refine OwnW.ishr (pc' := 41) at_40 rfl ?_
        show GoB0 l Z n0 OwnW.One1 h0 0 0 41 #[.val (.int sel), .val (.long est), .second, .val (.long lo1), .second, .val (.long up1), .second, .val (.long lo2), .second, .val (.long up2), .second, .val (.int (0 : Int32)), .val (.int (0 : Int32)), .val (.int (0 : Int32)), .val (.int (1 : Int32)), .unset, .unset, .unset, .unset] [(.int (0 : Int32))]
        refine OwnW.istore (pc' := 43) (L' := #[.val (.int sel), .val (.long est), .second, .val (.long lo1), .second, .val (.long up1), .second, .val (.long lo2), .second, .val (.long up2), .second, .val (.int (0 : Int32)), .val (.int (0 : Int32)), .val (.int (0 : Int32)), .val (.int (1 : Int32)), .val (.int (0 : Int32)), .unset, .unset, .unset]) at_41 rfl rfl ?_
        refine OwnW.iload (pc' := 45) at_43 rfl rfl ?_
        refine OwnW.iconst (pc' := 46) (v := (1 : Int32)) at_45 rfl rfl ?_
        refine OwnW.iand (pc' := 47) at_46 rfl ?_
        show GoB0 l Z n0 OwnW.One1 h0 0 0 47 #[.val (.int sel), .val (.long est), .second, .val (.long lo1), .second, .val (.long up1), .second, .val (.long lo2), .second, .val (.long up2), .second, .val (.int (0 : Int32)), .val (.int (0 : Int32)), .val (.int (0 : Int32)), .val (.int (1 : Int32)), .val (.int (0 : Int32)), .unset, .unset, .unset] [(.int (1 : Int32))]
        refine OwnW.istore (pc' := 49) (L' := #[.val (.int sel), .val (.long est), .second, .val (.long lo1), .second, .val (.long up1), .second, .val (.long lo2), .second, .val (.long up2), .second, .val (.int (0 : Int32)), .val (.int (0 : Int32)), .val (.int (0 : Int32)), .val (.int (1 : Int32)), .val (.int (0 : Int32)), .val (.int (1 : Int32)), .unset, .unset]) at_47 rfl rfl ?_
        refine OwnW.iloadN (pc' := 50) at_49 rfl rfl ?_
        refine OwnW.bipush (pc' := 52) (v := (16 : Int32)) at_50 rfl rfl ?_
        refine OwnW.iand (pc' := 53) at_52 rfl ?_
        suffices J53_61 : ∀ (sb : Int32), sb = (if (sel &&& (16 : Int32)) = (0 : Int32) then (0 : Int32) else (1 : Int32)) → GoB0 l Z n0 OwnW.One1 h0 0 0 61 #[.val (.int sel), .val (.long est), .second, .val (.long lo1), .second, .val (.long up1), .second, .val (.long lo2), .second, .val (.long up2), .second, .val (.int (0 : Int32)), .val (.int (0 : Int32)), .val (.int (0 : Int32)), .val (.int (1 : Int32)), .val (.int (0 : Int32)), .val (.int (1 : Int32)), .unset, .unset] [(.int sb)] by
          by_cases hc53 : (sel &&& (16 : Int32)) = (0 : Int32)
          ·
            refine OwnW.ifcY (pc' := 60) at_53 ((if0 _ _).trans (teq hc53).1) (by decide) (by decide) ?_
            refine OwnW.iconst (pc' := 61) (v := (0 : Int32)) at_60 rfl rfl ?_
            exact J53_61 _ (by first | simp only [if_pos hc53] | rfl)
          ·
            refine OwnW.ifcN (pc' := 56) at_53 ((if0 _ _).trans (feq hc53).1) rfl ?_
            refine OwnW.iconst (pc' := 57) (v := (1 : Int32)) at_56 rfl rfl ?_
            refine OwnW.goto (pc' := 61) at_57 (by decide) (by decide) ?_
            exact J53_61 _ (by first | simp only [if_neg hc53] | rfl)
        intro sb hsb
        refine OwnW.istore (pc' := 63) (L' := #[.val (.int sel), .val (.long est), .second, .val (.long lo1), .second, .val (.long up1), .second, .val (.long lo2), .second, .val (.long up2), .second, .val (.int (0 : Int32)), .val (.int (0 : Int32)), .val (.int (0 : Int32)), .val (.int (1 : Int32)), .val (.int (0 : Int32)), .val (.int (1 : Int32)), .val (.int sb), .unset]) at_61 rfl rfl ?_
        refine OwnW.newO (a0 := a0) (pc' := 66) (k' := 1) (n' := 3) at_63 (hw _ (List.mem_of_getElem? (i := 0) rfl)) (hw _ (List.mem_of_getElem? (i := 1) rfl)) (hw _ (List.mem_of_getElem? (i := 2) rfl)) rfl rfl (by decide) (by decide) rfl ?_
        intro h1 ad1 g1 E1 A1 D1
        have ge_ad1 : n0 ≤ ad1 := Nat.le_trans Z0 (Nat.le_of_eq g1.symm)
        have sz_ad1 : n0 ≤ h1.size := Nat.le_trans Z0 E1.1
        have F1_lower : Fld Z h1 ad1 "com/example/parley/parley/treesearch/ChildBounds" "lower" "[[J" .null := D1 (Or.inr (hw _ (List.mem_of_getElem? (i := 13) rfl))) (ty := (.array (.array .long))) (by decide)
        have F1_upper : Fld Z h1 ad1 "com/example/parley/parley/treesearch/ChildBounds" "upper" "[[J" .null := D1 (Or.inr (hw _ (List.mem_of_getElem? (i := 15) rfl))) (ty := (.array (.array .long))) (by decide)
        have F1_assignments : Fld Z h1 ad1 "com/example/parley/parley/treesearch/ChildBounds" "assignments" "[[Lcom/example/parley/parley/treesearch/SubtreeAssignment;" .null := D1 (Or.inr (hw _ (List.mem_of_getElem? (i := 20) rfl))) (ty := (.array (.array (.object "com/example/parley/parley/treesearch/SubtreeAssignment")))) (by decide)
        refine OwnW.dup (pc' := 67) at_66 rfl rfl ?_
        refine OwnW.iconst (pc' := 68) (v := (2 : Int32)) at_67 rfl rfl ?_
        refine OwnW.iconst (pc' := 69) (v := (2 : Int32)) at_68 rfl rfl ?_
        refine OwnW.callI (a0 := a0) (pc' := 72) (W := 1) (k' := 10) (n' := 21) (argsL := [(.int (2 : Int32)), (.int (2 : Int32))]) (rest := [(.ref ad1)]) at_69 rfl (hw _ (List.mem_of_getElem? (i := 3) rfl)) (hw _ (List.mem_of_getElem? (i := 4) rfl)) (hw _ (List.mem_of_getElem? (i := 2) rfl)) (hw _ (List.mem_of_getElem? (i := 5) rfl)) (by decide) (rm1 l Z a0 hw ad1 h1 n0 sz_ad1 ge_ad1 A1 F1_lower F1_upper F1_assignments) (by decide) (by decide) rfl rfl (by decide) (by decide) rfl pd_28II29V rfl rfl rfl (Nat.le_of_ble_eq_true rfl) rfl ?_
        rintro h2 v2 ⟨ad2_0, ad2_1, ad2_2, kc2_0, kc2_1, kc2_2, kc2_3, kc2_4, kc2_5, rfl, K2, gl2_0, gl2_1, gl2_2, nn2_0_1, nn2_0_2, nn2_1_2, pp2_0, pp2_1, Fc2_0, Fc2_1, Fc2_2, Fc2_3, Fc2_4, Fc2_5, Fc2_6, Fc2_7, Fc2_8, Fc2_9, Fc2_10, Fc2_11, Fc2_12, Fc2_13⟩
        have lt_ad1_ad2_0 : @LT.lt Nat _ ad1 ad2_0 := Nat.lt_of_lt_of_le (A1).lt gl2_0
        have ge_ad2_0 : n0 ≤ ad2_0 := Nat.le_trans sz_ad1 gl2_0
        have lt_ad1_ad2_1 : @LT.lt Nat _ ad1 ad2_1 := Nat.lt_of_lt_of_le (A1).lt gl2_1
        have ge_ad2_1 : n0 ≤ ad2_1 := Nat.le_trans sz_ad1 gl2_1
        have lt_ad1_ad2_2 : @LT.lt Nat _ ad1 ad2_2 := Nat.lt_of_lt_of_le (A1).lt gl2_2
        have ge_ad2_2 : n0 ≤ ad2_2 := Nat.le_trans sz_ad1 gl2_2
        have sz3 : n0 ≤ h2.size := Nat.le_trans sz_ad1 K2.1
        show GoB0 l Z n0 OwnW.One1 h2 10 21 72 #[.val (.int sel), .val (.long est), .second, .val (.long lo1), .second, .val (.long up1), .second, .val (.long lo2), .second, .val (.long up2), .second, .val (.int (0 : Int32)), .val (.int (0 : Int32)), .val (.int (0 : Int32)), .val (.int (1 : Int32)), .val (.int (0 : Int32)), .val (.int (1 : Int32)), .val (.int sb), .unset] [(.ref ad1)]
        refine OwnW.astore (pc' := 74) (L' := #[.val (.int sel), .val (.long est), .second, .val (.long lo1), .second, .val (.long up1), .second, .val (.long lo2), .second, .val (.long up2), .second, .val (.int (0 : Int32)), .val (.int (0 : Int32)), .val (.int (0 : Int32)), .val (.int (1 : Int32)), .val (.int (0 : Int32)), .val (.int (1 : Int32)), .val (.int sb), .val (.ref ad1)]) at_72 (rfl) rfl rfl ?_
        refine OwnW.iload (pc' := 76) at_74 rfl rfl ?_
        by_cases hc76 : sb = (0 : Int32)
        ·
          refine OwnW.ifcY (pc' := 92) at_76 ((if0 _ _).trans (teq hc76).1) (by decide) (by decide) ?_
          refine OwnW.aload (pc' := 94) at_92 rfl (rfl) rfl ?_
          refine OwnW.iload (pc' := 96) at_94 rfl rfl ?_
          refine OwnW.iload (pc' := 98) at_96 rfl rfl ?_
          refine OwnW.lload (pc' := 100) at_98 rfl rfl ?_
          refine OwnW.lload (pc' := 102) at_100 rfl rfl ?_
          refine OwnW.aconstNull (pc' := 103) at_102 rfl ?_
          refine OwnW.callV (a0 := a0) (pc' := 106) (W := 0) (k' := 10) (n' := 21) (argsL := [(.int (0 : Int32)), (.int (1 : Int32)), (.long lo2), (.long up2), .null]) (rest := []) at_103 (hw _ (List.mem_of_getElem? (i := 26) rfl)) (hw _ (List.mem_of_getElem? (i := 27) rfl)) (hw _ (List.mem_of_getElem? (i := 29) rfl)) (hw _ (List.mem_of_getElem? (i := 28) rfl)) (hw _ (List.mem_of_getElem? (i := 2) rfl)) (hw _ (List.mem_of_getElem? (i := 30) rfl)) (by decide) Fc2_0 (rm4_01 l Z a0 hw ad1 lo2 up2 ad2_0 (ad2_0 + 1) (ad2_0 + 2) kc2_0 kc2_1 (0 : Int64) (0 : Int64) ad2_1 (ad2_1 + 1) (ad2_1 + 2) kc2_2 kc2_3 (9223372036854775807 : Int64) (9223372036854775807 : Int64) ad2_2 (ad2_2 + 1) (ad2_2 + 2) kc2_4 kc2_5 h2 n0 sz3 (Nat.le_trans ge_ad2_0 (Nat.le_add_right _ _)) (Nat.le_trans ge_ad2_1 (Nat.le_add_right _ _)) (Nat.le_trans ge_ad2_2 (Nat.le_add_right _ _)) Fc2_0 Fc2_1 Fc2_4 Fc2_5 Fc2_2 Fc2_7 Fc2_8 Fc2_3 Fc2_10 Fc2_11 (by omega : @Ne Nat (ad2_0 + 1) ad2_1) (by omega : @Ne Nat (ad2_0 + 1) (ad2_1 + 1)) (by omega : @Ne Nat (ad2_0 + 1) ad2_2) (by omega : @Ne Nat (ad2_0 + 1) (ad2_2 + 1)) (by omega : @Ne Nat (ad2_0 + 1) ad1) (by omega : @Ne Nat (ad2_0 + 1) ad2_0) (by omega : @Ne Nat (ad2_1 + 1) ad2_2) (by omega : @Ne Nat (ad2_1 + 1) (ad2_2 + 1)) (by omega : @Ne Nat (ad2_1 + 1) ad1) (by omega : @Ne Nat (ad2_1 + 1) ad2_0) (by omega : @Ne Nat (ad2_1 + 1) ad2_1) (by omega : @Ne Nat (ad2_2 + 1) ad1) (by omega : @Ne Nat (ad2_2 + 1) ad2_0) (by omega : @Ne Nat (ad2_2 + 1) ad2_1) (by omega : @Ne Nat (ad2_2 + 1) ad2_2)) (by decide) (by decide) rfl rfl (by decide) (by decide) rfl pd_28IIJJLcom2fexample2fparley2fparley2ftreesearch2fSubtreeAssignment3b29V rfl rfl rfl (Nat.le_of_ble_eq_true rfl) rfl ?_
          rintro h4 v4 ⟨rfl, K4, Fc4_0, Fc4_1, Fc4_2⟩
          have sz5 : n0 ≤ h4.size := Nat.le_trans sz3 K4.1
          show GoB0 l Z n0 OwnW.One1 h4 10 21 106 #[.val (.int sel), .val (.long est), .second, .val (.long lo1), .second, .val (.long up1), .second, .val (.long lo2), .second, .val (.long up2), .second, .val (.int (0 : Int32)), .val (.int (0 : Int32)), .val (.int (0 : Int32)), .val (.int (1 : Int32)), .val (.int (0 : Int32)), .val (.int (1 : Int32)), .val (.int sb), .val (.ref ad1)] []
          refine OwnW.aload (pc' := 108) at_106 rfl (rfl) rfl ?_
          refine OwnW.iload (pc' := 110) at_108 rfl rfl ?_
          refine OwnW.iload (pc' := 112) at_110 rfl rfl ?_
          refine OwnW.lloadN (pc' := 113) at_112 rfl rfl ?_
          have F6 := (Fc2_0.keep K4)
          have F7 := (Fc2_1.keep K4 (ninS (by omega : @Ne Nat ad1 (ad2_0 + 1)) (ninS (by omega : @Ne Nat ad1 (ad2_1 + 1)) (ninS (by omega : @Ne Nat ad1 (ad2_2 + 1)) nin0))))
          have F8 := (Fc2_4.keep K4 (ninS (by omega : @Ne Nat ad2_0 (ad2_0 + 1)) (ninS (by omega : @Ne Nat ad2_0 (ad2_1 + 1)) (ninS (by omega : @Ne Nat ad2_0 (ad2_2 + 1)) nin0))))
          have F9 := (Fc2_2.keep K4 (ninS (by omega : @Ne Nat ad1 (ad2_0 + 1)) (ninS (by omega : @Ne Nat ad1 (ad2_1 + 1)) (ninS (by omega : @Ne Nat ad1 (ad2_2 + 1)) nin0))))
          have F10 := (Fc2_7.keep K4 (ninS (by omega : @Ne Nat ad2_1 (ad2_0 + 1)) (ninS (by omega : @Ne Nat ad2_1 (ad2_1 + 1)) (ninS (by omega : @Ne Nat ad2_1 (ad2_2 + 1)) nin0))))
          have F11 := (Fc2_3.keep K4 (ninS (by omega : @Ne Nat ad1 (ad2_0 + 1)) (ninS (by omega : @Ne Nat ad1 (ad2_1 + 1)) (ninS (by omega : @Ne Nat ad1 (ad2_2 + 1)) nin0))))
          have F12 := (Fc2_10.keep K4 (ninS (by omega : @Ne Nat ad2_2 (ad2_0 + 1)) (ninS (by omega : @Ne Nat ad2_2 (ad2_1 + 1)) (ninS (by omega : @Ne Nat ad2_2 (ad2_2 + 1)) nin0))))
          refine OwnW.callV (a0 := a0) (pc' := 116) (W := 0) (k' := 10) (n' := 21) (argsL := [(.int (0 : Int32)), (.int (0 : Int32)), (.long est)]) (rest := []) at_113 (hw _ (List.mem_of_getElem? (i := 31) rfl)) (hw _ (List.mem_of_getElem? (i := 32) rfl)) (hw _ (List.mem_of_getElem? (i := 34) rfl)) (hw _ (List.mem_of_getElem? (i := 33) rfl)) (hw _ (List.mem_of_getElem? (i := 2) rfl)) (hw _ (List.mem_of_getElem? (i := 35) rfl)) (by decide) F6 (rm5_00 l Z a0 hw ad1 est ad2_0 (ad2_0 + 1) (ad2_0 + 2) kc2_0 kc2_1 (0 : Int64) lo2 ad2_1 (ad2_1 + 1) (ad2_1 + 2) kc2_2 kc2_3 (9223372036854775807 : Int64) up2 ad2_2 (ad2_2 + 1) (ad2_2 + 2) kc2_4 kc2_5 h4 n0 sz5 (Nat.le_trans ge_ad2_0 (Nat.le_add_right _ _)) (Nat.le_trans ge_ad2_1 (Nat.le_add_right _ _)) (Nat.le_trans ge_ad2_2 (Nat.le_add_right _ _)) F6 F7 F8 Fc4_0 F9 F10 Fc4_1 F11 F12 Fc4_2 (by omega : @Ne Nat (ad2_0 + 1) ad2_1) (by omega : @Ne Nat (ad2_0 + 1) (ad2_1 + 1)) (by omega : @Ne Nat (ad2_0 + 1) ad2_2) (by omega : @Ne Nat (ad2_0 + 1) (ad2_2 + 1)) (by omega : @Ne Nat (ad2_0 + 1) ad1) (by omega : @Ne Nat (ad2_0 + 1) ad2_0) (by omega : @Ne Nat (ad2_1 + 1) ad2_2) (by omega : @Ne Nat (ad2_1 + 1) (ad2_2 + 1)) (by omega : @Ne Nat (ad2_1 + 1) ad1) (by omega : @Ne Nat (ad2_1 + 1) ad2_0) (by omega : @Ne Nat (ad2_1 + 1) ad2_1) (by omega : @Ne Nat (ad2_2 + 1) ad1) (by omega : @Ne Nat (ad2_2 + 1) ad2_0) (by omega : @Ne Nat (ad2_2 + 1) ad2_1) (by omega : @Ne Nat (ad2_2 + 1) ad2_2)) (by decide) (by decide) rfl rfl (by decide) (by decide) rfl pd_28IIJ29V rfl rfl rfl (Nat.le_of_ble_eq_true rfl) rfl ?_
          rintro h13 v13 ⟨rfl, K13, Fc13_0, Fc13_1, Fc13_2⟩
          have sz14 : n0 ≤ h13.size := Nat.le_trans sz5 K13.1
          show GoB0 l Z n0 OwnW.One1 h13 10 21 116 #[.val (.int sel), .val (.long est), .second, .val (.long lo1), .second, .val (.long up1), .second, .val (.long lo2), .second, .val (.long up2), .second, .val (.int (0 : Int32)), .val (.int (0 : Int32)), .val (.int (0 : Int32)), .val (.int (1 : Int32)), .val (.int (0 : Int32)), .val (.int (1 : Int32)), .val (.int sb), .val (.ref ad1)] []
          refine OwnW.aload (pc' := 118) at_116 rfl (rfl) rfl ?_
          refine OwnW.iload (pc' := 120) at_118 rfl rfl ?_
          refine OwnW.iload (pc' := 122) at_120 rfl rfl ?_
          have F15 := (F7.keep K13 (ninS (by omega : @Ne Nat ad1 (ad2_0 + 1)) (ninS (by omega : @Ne Nat ad1 (ad2_1 + 1)) (ninS (by omega : @Ne Nat ad1 (ad2_2 + 1)) nin0))))
          have F16 := (F8.keep K13 (ninS (by omega : @Ne Nat ad2_0 (ad2_0 + 1)) (ninS (by omega : @Ne Nat ad2_0 (ad2_1 + 1)) (ninS (by omega : @Ne Nat ad2_0 (ad2_2 + 1)) nin0))))
          have F17 := (F6.keep K13)
          refine OwnW.callV0 (a0 := a0) (pc' := 125) (W := 0) (k' := 10) (n' := 21) (argsL := [(.int (0 : Int32)), (.int (0 : Int32))]) (rest := []) (St' := [(.long (f6_00 ad1 ad2_0 (ad2_0 + 1) (ad2_0 + 2) kc2_0 kc2_1 est lo2))]) at_122 (hw _ (List.mem_of_getElem? (i := 36) rfl)) (hw _ (List.mem_of_getElem? (i := 37) rfl)) (hw _ (List.mem_of_getElem? (i := 39) rfl)) (hw _ (List.mem_of_getElem? (i := 38) rfl)) (hw _ (List.mem_of_getElem? (i := 2) rfl)) (hw _ (List.mem_of_getElem? (i := 40) rfl)) (by decide) F17 (rm6_00 l Z a0 hw ad1 ad2_0 (ad2_0 + 1) (ad2_0 + 2) kc2_0 kc2_1 est lo2 h13 n0 F15 F16 Fc13_0) (by decide) (by decide) rfl rfl (by decide) (by decide) rfl pd_28II29J rfl rfl rfl (Nat.le_of_ble_eq_true rfl) rfl rfl ?_
          refine OwnW.lloadN (pc' := 126) at_125 rfl rfl ?_
          refine OwnW.lcmp (pc' := 127) at_126 rfl ?_
          refine OwnW.ifcN (pc' := 130) at_127 ((if0 _ _).trans (teq ((lw_eq _ _).mpr rfl)).2) rfl ?_
          refine OwnW.aload (pc' := 132) at_130 rfl (rfl) rfl ?_
          refine OwnW.iload (pc' := 134) at_132 rfl rfl ?_
          refine OwnW.iload (pc' := 136) at_134 rfl rfl ?_
          have F18 := (F9.keep K13 (ninS (by omega : @Ne Nat ad1 (ad2_0 + 1)) (ninS (by omega : @Ne Nat ad1 (ad2_1 + 1)) (ninS (by omega : @Ne Nat ad1 (ad2_2 + 1)) nin0))))
          have F19 := (F10.keep K13 (ninS (by omega : @Ne Nat ad2_1 (ad2_0 + 1)) (ninS (by omega : @Ne Nat ad2_1 (ad2_1 + 1)) (ninS (by omega : @Ne Nat ad2_1 (ad2_2 + 1)) nin0))))
          refine OwnW.callV0 (a0 := a0) (pc' := 139) (W := 0) (k' := 10) (n' := 21) (argsL := [(.int (0 : Int32)), (.int (0 : Int32))]) (rest := []) (St' := [(.long (f7_00 ad1 ad2_1 (ad2_1 + 1) (ad2_1 + 2) kc2_2 kc2_3 (9223372036854775807 : Int64) up2))]) at_136 (hw _ (List.mem_of_getElem? (i := 41) rfl)) (hw _ (List.mem_of_getElem? (i := 42) rfl)) (hw _ (List.mem_of_getElem? (i := 44) rfl)) (hw _ (List.mem_of_getElem? (i := 43) rfl)) (hw _ (List.mem_of_getElem? (i := 2) rfl)) (hw _ (List.mem_of_getElem? (i := 45) rfl)) (by decide) F17 (rm7_00 l Z a0 hw ad1 ad2_1 (ad2_1 + 1) (ad2_1 + 2) kc2_2 kc2_3 (9223372036854775807 : Int64) up2 h13 n0 F18 F19 Fc13_1) (by decide) (by decide) rfl rfl (by decide) (by decide) rfl pd_28II29J rfl rfl rfl (Nat.le_of_ble_eq_true rfl) rfl rfl ?_
          refine OwnW.ldc2J (a0 := a0) (pc' := 142) (v := (9223372036854775807 : Int64)) at_139 (hw _ (List.mem_of_getElem? (i := 46) rfl)) rfl ?_
          refine OwnW.lcmp (pc' := 143) at_142 rfl ?_
          refine OwnW.ifcN (pc' := 146) at_143 ((if0 _ _).trans (teq ((lw_eq _ _).mpr rfl)).2) rfl ?_
          refine OwnW.aload (pc' := 148) at_146 rfl (rfl) rfl ?_
          refine OwnW.iload (pc' := 150) at_148 rfl rfl ?_
          refine OwnW.iload (pc' := 152) at_150 rfl rfl ?_
          refine OwnW.callV0 (a0 := a0) (pc' := 155) (W := 0) (k' := 10) (n' := 21) (argsL := [(.int (0 : Int32)), (.int (1 : Int32))]) (rest := []) (St' := [(.long (f6_01 ad1 ad2_0 (ad2_0 + 1) (ad2_0 + 2) kc2_0 kc2_1 est lo2))]) at_152 (hw _ (List.mem_of_getElem? (i := 36) rfl)) (hw _ (List.mem_of_getElem? (i := 37) rfl)) (hw _ (List.mem_of_getElem? (i := 39) rfl)) (hw _ (List.mem_of_getElem? (i := 38) rfl)) (hw _ (List.mem_of_getElem? (i := 2) rfl)) (hw _ (List.mem_of_getElem? (i := 40) rfl)) (by decide) F17 (rm6_01 l Z a0 hw ad1 ad2_0 (ad2_0 + 1) (ad2_0 + 2) kc2_0 kc2_1 est lo2 h13 n0 F15 F16 Fc13_0) (by decide) (by decide) rfl rfl (by decide) (by decide) rfl pd_28II29J rfl rfl rfl (Nat.le_of_ble_eq_true rfl) rfl rfl ?_
          refine OwnW.lload (pc' := 157) at_155 rfl rfl ?_
          refine OwnW.lcmp (pc' := 158) at_157 rfl ?_
          refine OwnW.ifcN (pc' := 161) at_158 ((if0 _ _).trans (teq ((lw_eq _ _).mpr rfl)).2) rfl ?_
          refine OwnW.aload (pc' := 163) at_161 rfl (rfl) rfl ?_
          refine OwnW.iload (pc' := 165) at_163 rfl rfl ?_
          refine OwnW.iload (pc' := 167) at_165 rfl rfl ?_
          refine OwnW.callV0 (a0 := a0) (pc' := 170) (W := 0) (k' := 10) (n' := 21) (argsL := [(.int (0 : Int32)), (.int (1 : Int32))]) (rest := []) (St' := [(.long (f7_01 ad1 ad2_1 (ad2_1 + 1) (ad2_1 + 2) kc2_2 kc2_3 (9223372036854775807 : Int64) up2))]) at_167 (hw _ (List.mem_of_getElem? (i := 41) rfl)) (hw _ (List.mem_of_getElem? (i := 42) rfl)) (hw _ (List.mem_of_getElem? (i := 44) rfl)) (hw _ (List.mem_of_getElem? (i := 43) rfl)) (hw _ (List.mem_of_getElem? (i := 2) rfl)) (hw _ (List.mem_of_getElem? (i := 45) rfl)) (by decide) F17 (rm7_01 l Z a0 hw ad1 ad2_1 (ad2_1 + 1) (ad2_1 + 2) kc2_2 kc2_3 (9223372036854775807 : Int64) up2 h13 n0 F18 F19 Fc13_1) (by decide) (by decide) rfl rfl (by decide) (by decide) rfl pd_28II29J rfl rfl rfl (Nat.le_of_ble_eq_true rfl) rfl rfl ?_
          refine OwnW.lload (pc' := 172) at_170 rfl rfl ?_
          refine OwnW.lcmp (pc' := 173) at_172 rfl ?_
          refine OwnW.ifcN (pc' := 176) at_173 ((if0 _ _).trans (teq ((lw_eq _ _).mpr rfl)).2) rfl ?_
          refine OwnW.iconst (pc' := 177) (v := (1 : Int32)) at_176 rfl rfl ?_
          refine OwnW.goto (pc' := 181) at_177 (by decide) (by decide) ?_
          exact OwnW.retN (t := .boolean) at_181 rfl (by simp) rfl (by decide) (by decide) (rfl)
        ·
          refine OwnW.ifcN (pc' := 79) at_76 ((if0 _ _).trans (feq hc76).1) rfl ?_
          refine OwnW.aload (pc' := 81) at_79 rfl (rfl) rfl ?_
          refine OwnW.iload (pc' := 83) at_81 rfl rfl ?_
          refine OwnW.iload (pc' := 85) at_83 rfl rfl ?_
          refine OwnW.lloadN (pc' := 86) at_85 rfl rfl ?_
          refine OwnW.lload (pc' := 88) at_86 rfl rfl ?_
          refine OwnW.aconstNull (pc' := 89) at_88 rfl ?_
          refine OwnW.callV (a0 := a0) (pc' := 92) (W := 0) (k' := 10) (n' := 21) (argsL := [(.int (0 : Int32)), (.int (0 : Int32)), (.long lo1), (.long up1), .null]) (rest := []) at_89 (hw _ (List.mem_of_getElem? (i := 26) rfl)) (hw _ (List.mem_of_getElem? (i := 27) rfl)) (hw _ (List.mem_of_getElem? (i := 29) rfl)) (hw _ (List.mem_of_getElem? (i := 28) rfl)) (hw _ (List.mem_of_getElem? (i := 2) rfl)) (hw _ (List.mem_of_getElem? (i := 30) rfl)) (by decide) Fc2_0 (rm4_00 l Z a0 hw ad1 lo1 up1 ad2_0 (ad2_0 + 1) (ad2_0 + 2) kc2_0 kc2_1 (0 : Int64) (0 : Int64) ad2_1 (ad2_1 + 1) (ad2_1 + 2) kc2_2 kc2_3 (9223372036854775807 : Int64) (9223372036854775807 : Int64) ad2_2 (ad2_2 + 1) (ad2_2 + 2) kc2_4 kc2_5 h2 n0 sz3 (Nat.le_trans ge_ad2_0 (Nat.le_add_right _ _)) (Nat.le_trans ge_ad2_1 (Nat.le_add_right _ _)) (Nat.le_trans ge_ad2_2 (Nat.le_add_right _ _)) Fc2_0 Fc2_1 Fc2_4 Fc2_5 Fc2_2 Fc2_7 Fc2_8 Fc2_3 Fc2_10 Fc2_11 (by omega : @Ne Nat (ad2_0 + 1) ad2_1) (by omega : @Ne Nat (ad2_0 + 1) (ad2_1 + 1)) (by omega : @Ne Nat (ad2_0 + 1) ad2_2) (by omega : @Ne Nat (ad2_0 + 1) (ad2_2 + 1)) (by omega : @Ne Nat (ad2_0 + 1) ad1) (by omega : @Ne Nat (ad2_0 + 1) ad2_0) (by omega : @Ne Nat (ad2_1 + 1) ad2_2) (by omega : @Ne Nat (ad2_1 + 1) (ad2_2 + 1)) (by omega : @Ne Nat (ad2_1 + 1) ad1) (by omega : @Ne Nat (ad2_1 + 1) ad2_0) (by omega : @Ne Nat (ad2_1 + 1) ad2_1) (by omega : @Ne Nat (ad2_2 + 1) ad1) (by omega : @Ne Nat (ad2_2 + 1) ad2_0) (by omega : @Ne Nat (ad2_2 + 1) ad2_1) (by omega : @Ne Nat (ad2_2 + 1) ad2_2)) (by decide) (by decide) rfl rfl (by decide) (by decide) rfl pd_28IIJJLcom2fexample2fparley2fparley2ftreesearch2fSubtreeAssignment3b29V rfl rfl rfl (Nat.le_of_ble_eq_true rfl) rfl ?_
          rintro h20 v20 ⟨rfl, K20, Fc20_0, Fc20_1, Fc20_2⟩
          have sz21 : n0 ≤ h20.size := Nat.le_trans sz3 K20.1
          show GoB0 l Z n0 OwnW.One1 h20 10 21 92 #[.val (.int sel), .val (.long est), .second, .val (.long lo1), .second, .val (.long up1), .second, .val (.long lo2), .second, .val (.long up2), .second, .val (.int (0 : Int32)), .val (.int (0 : Int32)), .val (.int (0 : Int32)), .val (.int (1 : Int32)), .val (.int (0 : Int32)), .val (.int (1 : Int32)), .val (.int sb), .val (.ref ad1)] []
          refine OwnW.aload (pc' := 94) at_92 rfl (rfl) rfl ?_
          refine OwnW.iload (pc' := 96) at_94 rfl rfl ?_
          refine OwnW.iload (pc' := 98) at_96 rfl rfl ?_
          refine OwnW.lload (pc' := 100) at_98 rfl rfl ?_
          refine OwnW.lload (pc' := 102) at_100 rfl rfl ?_
          refine OwnW.aconstNull (pc' := 103) at_102 rfl ?_
          have F22 := (Fc2_0.keep K20)
          have F23 := (Fc2_1.keep K20 (ninS (by omega : @Ne Nat ad1 (ad2_0 + 1)) (ninS (by omega : @Ne Nat ad1 (ad2_1 + 1)) (ninS (by omega : @Ne Nat ad1 (ad2_2 + 1)) nin0))))
          have F24 := (Fc2_4.keep K20 (ninS (by omega : @Ne Nat ad2_0 (ad2_0 + 1)) (ninS (by omega : @Ne Nat ad2_0 (ad2_1 + 1)) (ninS (by omega : @Ne Nat ad2_0 (ad2_2 + 1)) nin0))))
          have F25 := (Fc2_2.keep K20 (ninS (by omega : @Ne Nat ad1 (ad2_0 + 1)) (ninS (by omega : @Ne Nat ad1 (ad2_1 + 1)) (ninS (by omega : @Ne Nat ad1 (ad2_2 + 1)) nin0))))
          have F26 := (Fc2_7.keep K20 (ninS (by omega : @Ne Nat ad2_1 (ad2_0 + 1)) (ninS (by omega : @Ne Nat ad2_1 (ad2_1 + 1)) (ninS (by omega : @Ne Nat ad2_1 (ad2_2 + 1)) nin0))))
          have F27 := (Fc2_3.keep K20 (ninS (by omega : @Ne Nat ad1 (ad2_0 + 1)) (ninS (by omega : @Ne Nat ad1 (ad2_1 + 1)) (ninS (by omega : @Ne Nat ad1 (ad2_2 + 1)) nin0))))
          have F28 := (Fc2_10.keep K20 (ninS (by omega : @Ne Nat ad2_2 (ad2_0 + 1)) (ninS (by omega : @Ne Nat ad2_2 (ad2_1 + 1)) (ninS (by omega : @Ne Nat ad2_2 (ad2_2 + 1)) nin0))))
          refine OwnW.callV (a0 := a0) (pc' := 106) (W := 0) (k' := 10) (n' := 21) (argsL := [(.int (0 : Int32)), (.int (1 : Int32)), (.long lo2), (.long up2), .null]) (rest := []) at_103 (hw _ (List.mem_of_getElem? (i := 26) rfl)) (hw _ (List.mem_of_getElem? (i := 27) rfl)) (hw _ (List.mem_of_getElem? (i := 29) rfl)) (hw _ (List.mem_of_getElem? (i := 28) rfl)) (hw _ (List.mem_of_getElem? (i := 2) rfl)) (hw _ (List.mem_of_getElem? (i := 30) rfl)) (by decide) F22 (rm4_01 l Z a0 hw ad1 lo2 up2 ad2_0 (ad2_0 + 1) (ad2_0 + 2) kc2_0 kc2_1 lo1 (0 : Int64) ad2_1 (ad2_1 + 1) (ad2_1 + 2) kc2_2 kc2_3 up1 (9223372036854775807 : Int64) ad2_2 (ad2_2 + 1) (ad2_2 + 2) kc2_4 kc2_5 h20 n0 sz21 (Nat.le_trans ge_ad2_0 (Nat.le_add_right _ _)) (Nat.le_trans ge_ad2_1 (Nat.le_add_right _ _)) (Nat.le_trans ge_ad2_2 (Nat.le_add_right _ _)) F22 F23 F24 Fc20_0 F25 F26 Fc20_1 F27 F28 Fc20_2 (by omega : @Ne Nat (ad2_0 + 1) ad2_1) (by omega : @Ne Nat (ad2_0 + 1) (ad2_1 + 1)) (by omega : @Ne Nat (ad2_0 + 1) ad2_2) (by omega : @Ne Nat (ad2_0 + 1) (ad2_2 + 1)) (by omega : @Ne Nat (ad2_0 + 1) ad1) (by omega : @Ne Nat (ad2_0 + 1) ad2_0) (by omega : @Ne Nat (ad2_1 + 1) ad2_2) (by omega : @Ne Nat (ad2_1 + 1) (ad2_2 + 1)) (by omega : @Ne Nat (ad2_1 + 1) ad1) (by omega : @Ne Nat (ad2_1 + 1) ad2_0) (by omega : @Ne Nat (ad2_1 + 1) ad2_1) (by omega : @Ne Nat (ad2_2 + 1) ad1) (by omega : @Ne Nat (ad2_2 + 1) ad2_0) (by omega : @Ne Nat (ad2_2 + 1) ad2_1) (by omega : @Ne Nat (ad2_2 + 1) ad2_2)) (by decide) (by decide) rfl rfl (by decide) (by decide) rfl pd_28IIJJLcom2fexample2fparley2fparley2ftreesearch2fSubtreeAssignment3b29V rfl rfl rfl (Nat.le_of_ble_eq_true rfl) rfl ?_
          rintro h29 v29 ⟨rfl, K29, Fc29_0, Fc29_1, Fc29_2⟩
          have sz30 : n0 ≤ h29.size := Nat.le_trans sz21 K29.1
          show GoB0 l Z n0 OwnW.One1 h29 10 21 106 #[.val (.int sel), .val (.long est), .second, .val (.long lo1), .second, .val (.long up1), .second, .val (.long lo2), .second, .val (.long up2), .second, .val (.int (0 : Int32)), .val (.int (0 : Int32)), .val (.int (0 : Int32)), .val (.int (1 : Int32)), .val (.int (0 : Int32)), .val (.int (1 : Int32)), .val (.int sb), .val (.ref ad1)] []
          refine OwnW.aload (pc' := 108) at_106 rfl (rfl) rfl ?_
          refine OwnW.iload (pc' := 110) at_108 rfl rfl ?_
          refine OwnW.iload (pc' := 112) at_110 rfl rfl ?_
          refine OwnW.lloadN (pc' := 113) at_112 rfl rfl ?_
          have F31 := (F22.keep K29)
          have F32 := (F23.keep K29 (ninS (by omega : @Ne Nat ad1 (ad2_0 + 1)) (ninS (by omega : @Ne Nat ad1 (ad2_1 + 1)) (ninS (by omega : @Ne Nat ad1 (ad2_2 + 1)) nin0))))
          have F33 := (F24.keep K29 (ninS (by omega : @Ne Nat ad2_0 (ad2_0 + 1)) (ninS (by omega : @Ne Nat ad2_0 (ad2_1 + 1)) (ninS (by omega : @Ne Nat ad2_0 (ad2_2 + 1)) nin0))))
          have F34 := (F25.keep K29 (ninS (by omega : @Ne Nat ad1 (ad2_0 + 1)) (ninS (by omega : @Ne Nat ad1 (ad2_1 + 1)) (ninS (by omega : @Ne Nat ad1 (ad2_2 + 1)) nin0))))
          have F35 := (F26.keep K29 (ninS (by omega : @Ne Nat ad2_1 (ad2_0 + 1)) (ninS (by omega : @Ne Nat ad2_1 (ad2_1 + 1)) (ninS (by omega : @Ne Nat ad2_1 (ad2_2 + 1)) nin0))))
          have F36 := (F27.keep K29 (ninS (by omega : @Ne Nat ad1 (ad2_0 + 1)) (ninS (by omega : @Ne Nat ad1 (ad2_1 + 1)) (ninS (by omega : @Ne Nat ad1 (ad2_2 + 1)) nin0))))
          have F37 := (F28.keep K29 (ninS (by omega : @Ne Nat ad2_2 (ad2_0 + 1)) (ninS (by omega : @Ne Nat ad2_2 (ad2_1 + 1)) (ninS (by omega : @Ne Nat ad2_2 (ad2_2 + 1)) nin0))))
          refine OwnW.callV (a0 := a0) (pc' := 116) (W := 0) (k' := 10) (n' := 21) (argsL := [(.int (0 : Int32)), (.int (0 : Int32)), (.long est)]) (rest := []) at_113 (hw _ (List.mem_of_getElem? (i := 31) rfl)) (hw _ (List.mem_of_getElem? (i := 32) rfl)) (hw _ (List.mem_of_getElem? (i := 34) rfl)) (hw _ (List.mem_of_getElem? (i := 33) rfl)) (hw _ (List.mem_of_getElem? (i := 2) rfl)) (hw _ (List.mem_of_getElem? (i := 35) rfl)) (by decide) F31 (rm5_00 l Z a0 hw ad1 est ad2_0 (ad2_0 + 1) (ad2_0 + 2) kc2_0 kc2_1 lo1 lo2 ad2_1 (ad2_1 + 1) (ad2_1 + 2) kc2_2 kc2_3 up1 up2 ad2_2 (ad2_2 + 1) (ad2_2 + 2) kc2_4 kc2_5 h29 n0 sz30 (Nat.le_trans ge_ad2_0 (Nat.le_add_right _ _)) (Nat.le_trans ge_ad2_1 (Nat.le_add_right _ _)) (Nat.le_trans ge_ad2_2 (Nat.le_add_right _ _)) F31 F32 F33 Fc29_0 F34 F35 Fc29_1 F36 F37 Fc29_2 (by omega : @Ne Nat (ad2_0 + 1) ad2_1) (by omega : @Ne Nat (ad2_0 + 1) (ad2_1 + 1)) (by omega : @Ne Nat (ad2_0 + 1) ad2_2) (by omega : @Ne Nat (ad2_0 + 1) (ad2_2 + 1)) (by omega : @Ne Nat (ad2_0 + 1) ad1) (by omega : @Ne Nat (ad2_0 + 1) ad2_0) (by omega : @Ne Nat (ad2_1 + 1) ad2_2) (by omega : @Ne Nat (ad2_1 + 1) (ad2_2 + 1)) (by omega : @Ne Nat (ad2_1 + 1) ad1) (by omega : @Ne Nat (ad2_1 + 1) ad2_0) (by omega : @Ne Nat (ad2_1 + 1) ad2_1) (by omega : @Ne Nat (ad2_2 + 1) ad1) (by omega : @Ne Nat (ad2_2 + 1) ad2_0) (by omega : @Ne Nat (ad2_2 + 1) ad2_1) (by omega : @Ne Nat (ad2_2 + 1) ad2_2)) (by decide) (by decide) rfl rfl (by decide) (by decide) rfl pd_28IIJ29V rfl rfl rfl (Nat.le_of_ble_eq_true rfl) rfl ?_
          rintro h38 v38 ⟨rfl, K38, Fc38_0, Fc38_1, Fc38_2⟩
          have sz39 : n0 ≤ h38.size := Nat.le_trans sz30 K38.1
          show GoB0 l Z n0 OwnW.One1 h38 10 21 116 #[.val (.int sel), .val (.long est), .second, .val (.long lo1), .second, .val (.long up1), .second, .val (.long lo2), .second, .val (.long up2), .second, .val (.int (0 : Int32)), .val (.int (0 : Int32)), .val (.int (0 : Int32)), .val (.int (1 : Int32)), .val (.int (0 : Int32)), .val (.int (1 : Int32)), .val (.int sb), .val (.ref ad1)] []
          refine OwnW.aload (pc' := 118) at_116 rfl (rfl) rfl ?_
          refine OwnW.iload (pc' := 120) at_118 rfl rfl ?_
          refine OwnW.iload (pc' := 122) at_120 rfl rfl ?_
          have F40 := (F32.keep K38 (ninS (by omega : @Ne Nat ad1 (ad2_0 + 1)) (ninS (by omega : @Ne Nat ad1 (ad2_1 + 1)) (ninS (by omega : @Ne Nat ad1 (ad2_2 + 1)) nin0))))
          have F41 := (F33.keep K38 (ninS (by omega : @Ne Nat ad2_0 (ad2_0 + 1)) (ninS (by omega : @Ne Nat ad2_0 (ad2_1 + 1)) (ninS (by omega : @Ne Nat ad2_0 (ad2_2 + 1)) nin0))))
          have F42 := (F31.keep K38)
          refine OwnW.callV0 (a0 := a0) (pc' := 125) (W := 0) (k' := 10) (n' := 21) (argsL := [(.int (0 : Int32)), (.int (0 : Int32))]) (rest := []) (St' := [(.long (f6_00 ad1 ad2_0 (ad2_0 + 1) (ad2_0 + 2) kc2_0 kc2_1 est lo2))]) at_122 (hw _ (List.mem_of_getElem? (i := 36) rfl)) (hw _ (List.mem_of_getElem? (i := 37) rfl)) (hw _ (List.mem_of_getElem? (i := 39) rfl)) (hw _ (List.mem_of_getElem? (i := 38) rfl)) (hw _ (List.mem_of_getElem? (i := 2) rfl)) (hw _ (List.mem_of_getElem? (i := 40) rfl)) (by decide) F42 (rm6_00 l Z a0 hw ad1 ad2_0 (ad2_0 + 1) (ad2_0 + 2) kc2_0 kc2_1 est lo2 h38 n0 F40 F41 Fc38_0) (by decide) (by decide) rfl rfl (by decide) (by decide) rfl pd_28II29J rfl rfl rfl (Nat.le_of_ble_eq_true rfl) rfl rfl ?_
          refine OwnW.lloadN (pc' := 126) at_125 rfl rfl ?_
          refine OwnW.lcmp (pc' := 127) at_126 rfl ?_
          refine OwnW.ifcN (pc' := 130) at_127 ((if0 _ _).trans (teq ((lw_eq _ _).mpr rfl)).2) rfl ?_
          refine OwnW.aload (pc' := 132) at_130 rfl (rfl) rfl ?_
          refine OwnW.iload (pc' := 134) at_132 rfl rfl ?_
          refine OwnW.iload (pc' := 136) at_134 rfl rfl ?_
          have F43 := (F34.keep K38 (ninS (by omega : @Ne Nat ad1 (ad2_0 + 1)) (ninS (by omega : @Ne Nat ad1 (ad2_1 + 1)) (ninS (by omega : @Ne Nat ad1 (ad2_2 + 1)) nin0))))
          have F44 := (F35.keep K38 (ninS (by omega : @Ne Nat ad2_1 (ad2_0 + 1)) (ninS (by omega : @Ne Nat ad2_1 (ad2_1 + 1)) (ninS (by omega : @Ne Nat ad2_1 (ad2_2 + 1)) nin0))))
          refine OwnW.callV0 (a0 := a0) (pc' := 139) (W := 0) (k' := 10) (n' := 21) (argsL := [(.int (0 : Int32)), (.int (0 : Int32))]) (rest := []) (St' := [(.long (f7_00 ad1 ad2_1 (ad2_1 + 1) (ad2_1 + 2) kc2_2 kc2_3 (9223372036854775807 : Int64) up2))]) at_136 (hw _ (List.mem_of_getElem? (i := 41) rfl)) (hw _ (List.mem_of_getElem? (i := 42) rfl)) (hw _ (List.mem_of_getElem? (i := 44) rfl)) (hw _ (List.mem_of_getElem? (i := 43) rfl)) (hw _ (List.mem_of_getElem? (i := 2) rfl)) (hw _ (List.mem_of_getElem? (i := 45) rfl)) (by decide) F42 (rm7_00 l Z a0 hw ad1 ad2_1 (ad2_1 + 1) (ad2_1 + 2) kc2_2 kc2_3 (9223372036854775807 : Int64) up2 h38 n0 F43 F44 Fc38_1) (by decide) (by decide) rfl rfl (by decide) (by decide) rfl pd_28II29J rfl rfl rfl (Nat.le_of_ble_eq_true rfl) rfl rfl ?_
          refine OwnW.ldc2J (a0 := a0) (pc' := 142) (v := (9223372036854775807 : Int64)) at_139 (hw _ (List.mem_of_getElem? (i := 46) rfl)) rfl ?_
          refine OwnW.lcmp (pc' := 143) at_142 rfl ?_
          refine OwnW.ifcN (pc' := 146) at_143 ((if0 _ _).trans (teq ((lw_eq _ _).mpr rfl)).2) rfl ?_
          refine OwnW.aload (pc' := 148) at_146 rfl (rfl) rfl ?_
          refine OwnW.iload (pc' := 150) at_148 rfl rfl ?_
          refine OwnW.iload (pc' := 152) at_150 rfl rfl ?_
          refine OwnW.callV0 (a0 := a0) (pc' := 155) (W := 0) (k' := 10) (n' := 21) (argsL := [(.int (0 : Int32)), (.int (1 : Int32))]) (rest := []) (St' := [(.long (f6_01 ad1 ad2_0 (ad2_0 + 1) (ad2_0 + 2) kc2_0 kc2_1 est lo2))]) at_152 (hw _ (List.mem_of_getElem? (i := 36) rfl)) (hw _ (List.mem_of_getElem? (i := 37) rfl)) (hw _ (List.mem_of_getElem? (i := 39) rfl)) (hw _ (List.mem_of_getElem? (i := 38) rfl)) (hw _ (List.mem_of_getElem? (i := 2) rfl)) (hw _ (List.mem_of_getElem? (i := 40) rfl)) (by decide) F42 (rm6_01 l Z a0 hw ad1 ad2_0 (ad2_0 + 1) (ad2_0 + 2) kc2_0 kc2_1 est lo2 h38 n0 F40 F41 Fc38_0) (by decide) (by decide) rfl rfl (by decide) (by decide) rfl pd_28II29J rfl rfl rfl (Nat.le_of_ble_eq_true rfl) rfl rfl ?_
          refine OwnW.lload (pc' := 157) at_155 rfl rfl ?_
          refine OwnW.lcmp (pc' := 158) at_157 rfl ?_
          refine OwnW.ifcN (pc' := 161) at_158 ((if0 _ _).trans (teq ((lw_eq _ _).mpr rfl)).2) rfl ?_
          refine OwnW.aload (pc' := 163) at_161 rfl (rfl) rfl ?_
          refine OwnW.iload (pc' := 165) at_163 rfl rfl ?_
          refine OwnW.iload (pc' := 167) at_165 rfl rfl ?_
          refine OwnW.callV0 (a0 := a0) (pc' := 170) (W := 0) (k' := 10) (n' := 21) (argsL := [(.int (0 : Int32)), (.int (1 : Int32))]) (rest := []) (St' := [(.long (f7_01 ad1 ad2_1 (ad2_1 + 1) (ad2_1 + 2) kc2_2 kc2_3 (9223372036854775807 : Int64) up2))]) at_167 (hw _ (List.mem_of_getElem? (i := 41) rfl)) (hw _ (List.mem_of_getElem? (i := 42) rfl)) (hw _ (List.mem_of_getElem? (i := 44) rfl)) (hw _ (List.mem_of_getElem? (i := 43) rfl)) (hw _ (List.mem_of_getElem? (i := 2) rfl)) (hw _ (List.mem_of_getElem? (i := 45) rfl)) (by decide) F42 (rm7_01 l Z a0 hw ad1 ad2_1 (ad2_1 + 1) (ad2_1 + 2) kc2_2 kc2_3 (9223372036854775807 : Int64) up2 h38 n0 F43 F44 Fc38_1) (by decide) (by decide) rfl rfl (by decide) (by decide) rfl pd_28II29J rfl rfl rfl (Nat.le_of_ble_eq_true rfl) rfl rfl ?_
          refine OwnW.lload (pc' := 172) at_170 rfl rfl ?_
          refine OwnW.lcmp (pc' := 173) at_172 rfl ?_
          refine OwnW.ifcN (pc' := 176) at_173 ((if0 _ _).trans (teq ((lw_eq _ _).mpr rfl)).2) rfl ?_
          refine OwnW.iconst (pc' := 177) (v := (1 : Int32)) at_176 rfl rfl ?_
          refine OwnW.goto (pc' := 181) at_177 (by decide) (by decide) ?_
          exact OwnW.retN (t := .boolean) at_181 rfl (by simp) rfl (by decide) (by decide) (rfl)
      ·
        show GoB0 l Z n0 OwnW.One1 h0 0 0 32 #[.val (.int sel), .val (.long est), .second, .val (.long lo1), .second, .val (.long up1), .second, .val (.long lo2), .second, .val (.long up2), .second, .val (.int (0 : Int32)), .val (.int (0 : Int32)), .val (.int (0 : Int32)), .unset, .unset, .unset, .unset, .unset] [(.int (1 : Int32)), (.int (1 : Int32))]
        refine OwnW.iadd (pc' := 33) at_32 rfl ?_
        show GoB0 l Z n0 OwnW.One1 h0 0 0 33 #[.val (.int sel), .val (.long est), .second, .val (.long lo1), .second, .val (.long up1), .second, .val (.long lo2), .second, .val (.long up2), .second, .val (.int (0 : Int32)), .val (.int (0 : Int32)), .val (.int (0 : Int32)), .unset, .unset, .unset, .unset, .unset] [(.int (2 : Int32))]
        refine OwnW.iconst (pc' := 34) (v := (3 : Int32)) at_33 rfl rfl ?_
        refine OwnW.iand (pc' := 35) at_34 rfl ?_
        show GoB0 l Z n0 OwnW.One1 h0 0 0 35 #[.val (.int sel), .val (.long est), .second, .val (.long lo1), .second, .val (.long up1), .second, .val (.long lo2), .second, .val (.long up2), .second, .val (.int (0 : Int32)), .val (.int (0 : Int32)), .val (.int (0 : Int32)), .unset, .unset, .unset, .unset, .unset] [(.int (2 : Int32))]
        refine OwnW.istore (pc' := 37) (L' := #[.val (.int sel), .val (.long est), .second, .val (.long lo1), .second, .val (.long up1), .second, .val (.long lo2), .second, .val (.long up2), .second, .val (.int (0 : Int32)), .val (.int (0 : Int32)), .val (.int (0 : Int32)), .val (.int (2 : Int32)), .unset, .unset, .unset, .unset]) at_35 rfl rfl ?_
        refine OwnW.iload (pc' := 39) at_37 rfl rfl ?_
        refine OwnW.iconst (pc' := 40) (v := (1 : Int32)) at_39 rfl rfl ?_
        refine OwnW.ishr (pc' := 41) at_40 rfl ?_
        show GoB0 l Z n0 OwnW.One1 h0 0 0 41 #[.val (.int sel), .val (.long est), .second, .val (.long lo1), .second, .val (.long up1), .second, .val (.long lo2), .second, .val (.long up2), .second, .val (.int (0 : Int32)), .val (.int (0 : Int32)), .val (.int (0 : Int32)), .val (.int (2 : Int32)), .unset, .unset, .unset, .unset] [(.int (1 : Int32))]
        refine OwnW.istore (pc' := 43) (L' := #[.val (.int sel), .val (.long est), .second, .val (.long lo1), .second, .val (.long up1), .second, .val (.long lo2), .second, .val (.long up2), .second, .val (.int (0 : Int32)), .val (.int (0 : Int32)), .val (.int (0 : Int32)), .val (.int (2 : Int32)), .val (.int (1 : Int32)), .unset, .unset, .unset]) at_41 rfl rfl ?_
        refine OwnW.iload (pc' := 45) at_43 rfl rfl ?_
        refine OwnW.iconst (pc' := 46) (v := (1 : Int32)) at_45 rfl rfl ?_
        refine OwnW.iand (pc' := 47) at_46 rfl ?_
        show GoB0 l Z n0 OwnW.One1 h0 0 0 47 #[.val (.int sel), .val (.long est), .second, .val (.long lo1), .second, .val (.long up1), .second, .val (.long lo2), .second, .val (.long up2), .second, .val (.int (0 : Int32)), .val (.int (0 : Int32)), .val (.int (0 : Int32)), .val (.int (2 : Int32)), .val (.int (1 : Int32)), .unset, .unset, .unset] [(.int (0 : Int32))]
        refine OwnW.istore (pc' := 49) (L' := #[.val (.int sel), .val (.long est), .second, .val (.long lo1), .second, .val (.long up1), .second, .val (.long lo2), .second, .val (.long up2), .second, .val (.int (0 : Int32)), .val (.int (0 : Int32)), .val (.int (0 : Int32)), .val (.int (2 : Int32)), .val (.int (1 : Int32)), .val (.int (0 : Int32)), .unset, .unset]) at_47 rfl rfl ?_
        refine OwnW.iloadN (pc' := 50) at_49 rfl rfl ?_
        refine OwnW.bipush (pc' := 52) (v := (16 : Int32)) at_50 rfl rfl ?_
        refine OwnW.iand (pc' := 53) at_52 rfl ?_
        suffices J53_61 : ∀ (sb : Int32), sb = (if (sel &&& (16 : Int32)) = (0 : Int32) then (0 : Int32) else (1 : Int32)) → GoB0 l Z n0 OwnW.One1 h0 0 0 61 #[.val (.int sel), .val (.long est), .second, .val (.long lo1), .second, .val (.long up1), .second, .val (.long lo2), .second, .val (.long up2), .second, .val (.int (0 : Int32)), .val (.int (0 : Int32)), .val (.int (0 : Int32)), .val (.int (2 : Int32)), .val (.int (1 : Int32)), .val (.int (0 : Int32)), .unset, .unset] [(.int sb)] by
          by_cases hc53 : (sel &&& (16 : Int32)) = (0 : Int32)
          ·
            refine OwnW.ifcY (pc' := 60) at_53 ((if0 _ _).trans (teq hc53).1) (by decide) (by decide) ?_
            refine OwnW.iconst (pc' := 61) (v := (0 : Int32)) at_60 rfl rfl ?_
            exact J53_61 _ (by first | simp only [if_pos hc53] | rfl)
          ·
            refine OwnW.ifcN (pc' := 56) at_53 ((if0 _ _).trans (feq hc53).1) rfl ?_
            refine OwnW.iconst (pc' := 57) (v := (1 : Int32)) at_56 rfl rfl ?_
            refine OwnW.goto (pc' := 61) at_57 (by decide) (by decide) ?_
            exact J53_61 _ (by first | simp only [if_neg hc53] | rfl)
        intro sb hsb
        refine OwnW.istore (pc' := 63) (L' := #[.val (.int sel), .val (.long est), .second, .val (.long lo1), .second, .val (.long up1), .second, .val (.long lo2), .second, .val (.long up2), .second, .val (.int (0 : Int32)), .val (.int (0 : Int32)), .val (.int (0 : Int32)), .val (.int (2 : Int32)), .val (.int (1 : Int32)), .val (.int (0 : Int32)), .val (.int sb), .unset]) at_61 rfl rfl ?_
        refine OwnW.newO (a0 := a0) (pc' := 66) (k' := 1) (n' := 3) at_63 (hw _ (List.mem_of_getElem? (i := 0) rfl)) (hw _ (List.mem_of_getElem? (i := 1) rfl)) (hw _ (List.mem_of_getElem? (i := 2) rfl)) rfl rfl (by decide) (by decide) rfl ?_
        intro h45 ad45 g45 E45 A45 D45
        have ge_ad45 : n0 ≤ ad45 := Nat.le_trans Z0 (Nat.le_of_eq g45.symm)
        have sz_ad45 : n0 ≤ h45.size := Nat.le_trans Z0 E45.1
        have F45_lower : Fld Z h45 ad45 "com/example/parley/parley/treesearch/ChildBounds" "lower" "[[J" .null := D45 (Or.inr (hw _ (List.mem_of_getElem? (i := 13) rfl))) (ty := (.array (.array .long))) (by decide)
        have F45_upper : Fld Z h45 ad45 "com/example/parley/parley/treesearch/ChildBounds" "upper" "[[J" .null := D45 (Or.inr (hw _ (List.mem_of_getElem? (i := 15) rfl))) (ty := (.array (.array .long))) (by decide)
        have F45_assignments : Fld Z h45 ad45 "com/example/parley/parley/treesearch/ChildBounds" "assignments" "[[Lcom/example/parley/parley/treesearch/SubtreeAssignment;" .null := D45 (Or.inr (hw _ (List.mem_of_getElem? (i := 20) rfl))) (ty := (.array (.array (.object "com/example/parley/parley/treesearch/SubtreeAssignment")))) (by decide)
        refine OwnW.dup (pc' := 67) at_66 rfl rfl ?_
        refine OwnW.iconst (pc' := 68) (v := (2 : Int32)) at_67 rfl rfl ?_
        refine OwnW.iconst (pc' := 69) (v := (2 : Int32)) at_68 rfl rfl ?_
        refine OwnW.callI (a0 := a0) (pc' := 72) (W := 1) (k' := 10) (n' := 21) (argsL := [(.int (2 : Int32)), (.int (2 : Int32))]) (rest := [(.ref ad45)]) at_69 rfl (hw _ (List.mem_of_getElem? (i := 3) rfl)) (hw _ (List.mem_of_getElem? (i := 4) rfl)) (hw _ (List.mem_of_getElem? (i := 2) rfl)) (hw _ (List.mem_of_getElem? (i := 5) rfl)) (by decide) (rm1 l Z a0 hw ad45 h45 n0 sz_ad45 ge_ad45 A45 F45_lower F45_upper F45_assignments) (by decide) (by decide) rfl rfl (by decide) (by decide) rfl pd_28II29V rfl rfl rfl (Nat.le_of_ble_eq_true rfl) rfl ?_
        rintro h46 v46 ⟨ad46_0, ad46_1, ad46_2, kc46_0, kc46_1, kc46_2, kc46_3, kc46_4, kc46_5, rfl, K46, gl46_0, gl46_1, gl46_2, nn46_0_1, nn46_0_2, nn46_1_2, pp46_0, pp46_1, Fc46_0, Fc46_1, Fc46_2, Fc46_3, Fc46_4, Fc46_5, Fc46_6, Fc46_7, Fc46_8, Fc46_9, Fc46_10, Fc46_11, Fc46_12, Fc46_13⟩
        have lt_ad45_ad46_0 : @LT.lt Nat _ ad45 ad46_0 := Nat.lt_of_lt_of_le (A45).lt gl46_0
        have ge_ad46_0 : n0 ≤ ad46_0 := Nat.le_trans sz_ad45 gl46_0
        have lt_ad45_ad46_1 : @LT.lt Nat _ ad45 ad46_1 := Nat.lt_of_lt_of_le (A45).lt gl46_1
        have ge_ad46_1 : n0 ≤ ad46_1 := Nat.le_trans sz_ad45 gl46_1
        have lt_ad45_ad46_2 : @LT.lt Nat _ ad45 ad46_2 := Nat.lt_of_lt_of_le (A45).lt gl46_2
        have ge_ad46_2 : n0 ≤ ad46_2 := Nat.le_trans sz_ad45 gl46_2
        have sz47 : n0 ≤ h46.size := Nat.le_trans sz_ad45 K46.1
        show GoB0 l Z n0 OwnW.One1 h46 10 21 72 #[.val (.int sel), .val (.long est), .second, .val (.long lo1), .second, .val (.long up1), .second, .val (.long lo2), .second, .val (.long up2), .second, .val (.int (0 : Int32)), .val (.int (0 : Int32)), .val (.int (0 : Int32)), .val (.int (2 : Int32)), .val (.int (1 : Int32)), .val (.int (0 : Int32)), .val (.int sb), .unset] [(.ref ad45)]
        refine OwnW.astore (pc' := 74) (L' := #[.val (.int sel), .val (.long est), .second, .val (.long lo1), .second, .val (.long up1), .second, .val (.long lo2), .second, .val (.long up2), .second, .val (.int (0 : Int32)), .val (.int (0 : Int32)), .val (.int (0 : Int32)), .val (.int (2 : Int32)), .val (.int (1 : Int32)), .val (.int (0 : Int32)), .val (.int sb), .val (.ref ad45)]) at_72 (rfl) rfl rfl ?_
        refine OwnW.iload (pc' := 76) at_74 rfl rfl ?_
        by_cases hc76 : sb = (0 : Int32)
        ·
          refine OwnW.ifcY (pc' := 92) at_76 ((if0 _ _).trans (teq hc76).1) (by decide) (by decide) ?_
          refine OwnW.aload (pc' := 94) at_92 rfl (rfl) rfl ?_
          refine OwnW.iload (pc' := 96) at_94 rfl rfl ?_
          refine OwnW.iload (pc' := 98) at_96 rfl rfl ?_
          refine OwnW.lload (pc' := 100) at_98 rfl rfl ?_
          refine OwnW.lload (pc' := 102) at_100 rfl rfl ?_
          refine OwnW.aconstNull (pc' := 103) at_102 rfl ?_
          refine OwnW.callV (a0 := a0) (pc' := 106) (W := 0) (k' := 10) (n' := 21) (argsL := [(.int (1 : Int32)), (.int (0 : Int32)), (.long lo2), (.long up2), .null]) (rest := []) at_103 (hw _ (List.mem_of_getElem? (i := 26) rfl)) (hw _ (List.mem_of_getElem? (i := 27) rfl)) (hw _ (List.mem_of_getElem? (i := 29) rfl)) (hw _ (List.mem_of_getElem? (i := 28) rfl)) (hw _ (List.mem_of_getElem? (i := 2) rfl)) (hw _ (List.mem_of_getElem? (i := 30) rfl)) (by decide) Fc46_0 (rm4_10 l Z a0 hw ad45 lo2 up2 ad46_0 (ad46_0 + 1) (ad46_0 + 2) kc46_0 kc46_1 (0 : Int64) (0 : Int64) ad46_1 (ad46_1 + 1) (ad46_1 + 2) kc46_2 kc46_3 (9223372036854775807 : Int64) (9223372036854775807 : Int64) ad46_2 (ad46_2 + 1) (ad46_2 + 2) kc46_4 kc46_5 h46 n0 sz47 (Nat.le_trans ge_ad46_0 (Nat.le_add_right _ _)) (Nat.le_trans ge_ad46_1 (Nat.le_add_right _ _)) (Nat.le_trans ge_ad46_2 (Nat.le_add_right _ _)) Fc46_0 Fc46_1 Fc46_4 Fc46_6 Fc46_2 Fc46_7 Fc46_9 Fc46_3 Fc46_10 Fc46_12 (by omega : @Ne Nat (ad46_0 + 2) ad46_1) (by omega : @Ne Nat (ad46_0 + 2) (ad46_1 + 2)) (by omega : @Ne Nat (ad46_0 + 2) ad46_2) (by omega : @Ne Nat (ad46_0 + 2) (ad46_2 + 2)) (by omega : @Ne Nat (ad46_0 + 2) ad45) (by omega : @Ne Nat (ad46_0 + 2) ad46_0) (by omega : @Ne Nat (ad46_1 + 2) ad46_2) (by omega : @Ne Nat (ad46_1 + 2) (ad46_2 + 2)) (by omega : @Ne Nat (ad46_1 + 2) ad45) (by omega : @Ne Nat (ad46_1 + 2) ad46_0) (by omega : @Ne Nat (ad46_1 + 2) ad46_1) (by omega : @Ne Nat (ad46_2 + 2) ad45) (by omega : @Ne Nat (ad46_2 + 2) ad46_0) (by omega : @Ne Nat (ad46_2 + 2) ad46_1) (by omega : @Ne Nat (ad46_2 + 2) ad46_2)) (by decide) (by decide) rfl rfl (by decide) (by decide) rfl pd_28IIJJLcom2fexample2fparley2fparley2ftreesearch2fSubtreeAssignment3b29V rfl rfl rfl (Nat.le_of_ble_eq_true rfl) rfl ?_
          rintro h48 v48 ⟨rfl, K48, Fc48_0, Fc48_1, Fc48_2⟩
          have sz49 : n0 ≤ h48.size := Nat.le_trans sz47 K48.1
          show GoB0 l Z n0 OwnW.One1 h48 10 21 106 #[.val (.int sel), .val (.long est), .second, .val (.long lo1), .second, .val (.long up1), .second, .val (.long lo2), .second, .val (.long up2), .second, .val (.int (0 : Int32)), .val (.int (0 : Int32)), .val (.int (0 : Int32)), .val (.int (2 : Int32)), .val (.int (1 : Int32)), .val (.int (0 : Int32)), .val (.int sb), .val (.ref ad45)] []
          refine OwnW.aload (pc' := 108) at_106 rfl (rfl) rfl ?_
          refine OwnW.iload (pc' := 110) at_108 rfl rfl ?_
          refine OwnW.iload (pc' := 112) at_110 rfl rfl ?_
          refine OwnW.lloadN (pc' := 113) at_112 rfl rfl ?_
          have F50 := (Fc46_0.keep K48)
          have F51 := (Fc46_1.keep K48 (ninS (by omega : @Ne Nat ad45 (ad46_0 + 2)) (ninS (by omega : @Ne Nat ad45 (ad46_1 + 2)) (ninS (by omega : @Ne Nat ad45 (ad46_2 + 2)) nin0))))
          have F52 := (Fc46_4.keep K48 (ninS (by omega : @Ne Nat ad46_0 (ad46_0 + 2)) (ninS (by omega : @Ne Nat ad46_0 (ad46_1 + 2)) (ninS (by omega : @Ne Nat ad46_0 (ad46_2 + 2)) nin0))))
          have F53 := (Fc46_5.keep K48 (ninS (by omega : @Ne Nat (ad46_0 + 1) (ad46_0 + 2)) (ninS (by omega : @Ne Nat (ad46_0 + 1) (ad46_1 + 2)) (ninS (by omega : @Ne Nat (ad46_0 + 1) (ad46_2 + 2)) nin0))))
          have F54 := (Fc46_2.keep K48 (ninS (by omega : @Ne Nat ad45 (ad46_0 + 2)) (ninS (by omega : @Ne Nat ad45 (ad46_1 + 2)) (ninS (by omega : @Ne Nat ad45 (ad46_2 + 2)) nin0))))
          have F55 := (Fc46_7.keep K48 (ninS (by omega : @Ne Nat ad46_1 (ad46_0 + 2)) (ninS (by omega : @Ne Nat ad46_1 (ad46_1 + 2)) (ninS (by omega : @Ne Nat ad46_1 (ad46_2 + 2)) nin0))))
          have F56 := (Fc46_8.keep K48 (ninS (by omega : @Ne Nat (ad46_1 + 1) (ad46_0 + 2)) (ninS (by omega : @Ne Nat (ad46_1 + 1) (ad46_1 + 2)) (ninS (by omega : @Ne Nat (ad46_1 + 1) (ad46_2 + 2)) nin0))))
          have F57 := (Fc46_3.keep K48 (ninS (by omega : @Ne Nat ad45 (ad46_0 + 2)) (ninS (by omega : @Ne Nat ad45 (ad46_1 + 2)) (ninS (by omega : @Ne Nat ad45 (ad46_2 + 2)) nin0))))
          have F58 := (Fc46_10.keep K48 (ninS (by omega : @Ne Nat ad46_2 (ad46_0 + 2)) (ninS (by omega : @Ne Nat ad46_2 (ad46_1 + 2)) (ninS (by omega : @Ne Nat ad46_2 (ad46_2 + 2)) nin0))))
          have F59 := (Fc46_11.keep K48 (ninS (by omega : @Ne Nat (ad46_2 + 1) (ad46_0 + 2)) (ninS (by omega : @Ne Nat (ad46_2 + 1) (ad46_1 + 2)) (ninS (by omega : @Ne Nat (ad46_2 + 1) (ad46_2 + 2)) nin0))))
          refine OwnW.callV (a0 := a0) (pc' := 116) (W := 0) (k' := 10) (n' := 21) (argsL := [(.int (0 : Int32)), (.int (0 : Int32)), (.long est)]) (rest := []) at_113 (hw _ (List.mem_of_getElem? (i := 31) rfl)) (hw _ (List.mem_of_getElem? (i := 32) rfl)) (hw _ (List.mem_of_getElem? (i := 34) rfl)) (hw _ (List.mem_of_getElem? (i := 33) rfl)) (hw _ (List.mem_of_getElem? (i := 2) rfl)) (hw _ (List.mem_of_getElem? (i := 35) rfl)) (by decide) F50 (rm5_00 l Z a0 hw ad45 est ad46_0 (ad46_0 + 1) (ad46_0 + 2) kc46_0 kc46_1 (0 : Int64) (0 : Int64) ad46_1 (ad46_1 + 1) (ad46_1 + 2) kc46_2 kc46_3 (9223372036854775807 : Int64) (9223372036854775807 : Int64) ad46_2 (ad46_2 + 1) (ad46_2 + 2) kc46_4 kc46_5 h48 n0 sz49 (Nat.le_trans ge_ad46_0 (Nat.le_add_right _ _)) (Nat.le_trans ge_ad46_1 (Nat.le_add_right _ _)) (Nat.le_trans ge_ad46_2 (Nat.le_add_right _ _)) F50 F51 F52 F53 F54 F55 F56 F57 F58 F59 (by omega : @Ne Nat (ad46_0 + 1) ad46_1) (by omega : @Ne Nat (ad46_0 + 1) (ad46_1 + 1)) (by omega : @Ne Nat (ad46_0 + 1) ad46_2) (by omega : @Ne Nat (ad46_0 + 1) (ad46_2 + 1)) (by omega : @Ne Nat (ad46_0 + 1) ad45) (by omega : @Ne Nat (ad46_0 + 1) ad46_0) (by omega : @Ne Nat (ad46_1 + 1) ad46_2) (by omega : @Ne Nat (ad46_1 + 1) (ad46_2 + 1)) (by omega : @Ne Nat (ad46_1 + 1) ad45) (by omega : @Ne Nat (ad46_1 + 1) ad46_0) (by omega : @Ne Nat (ad46_1 + 1) ad46_1) (by omega : @Ne Nat (ad46_2 + 1) ad45) (by omega : @Ne Nat (ad46_2 + 1) ad46_0) (by omega : @Ne Nat (ad46_2 + 1) ad46_1) (by omega : @Ne Nat (ad46_2 + 1) ad46_2)) (by decide) (by decide) rfl rfl (by decide) (by decide) rfl pd_28IIJ29V rfl rfl rfl (Nat.le_of_ble_eq_true rfl) rfl ?_
          rintro h60 v60 ⟨rfl, K60, Fc60_0, Fc60_1, Fc60_2⟩
          have sz61 : n0 ≤ h60.size := Nat.le_trans sz49 K60.1
          show GoB0 l Z n0 OwnW.One1 h60 10 21 116 #[.val (.int sel), .val (.long est), .second, .val (.long lo1), .second, .val (.long up1), .second, .val (.long lo2), .second, .val (.long up2), .second, .val (.int (0 : Int32)), .val (.int (0 : Int32)), .val (.int (0 : Int32)), .val (.int (2 : Int32)), .val (.int (1 : Int32)), .val (.int (0 : Int32)), .val (.int sb), .val (.ref ad45)] []
          refine OwnW.aload (pc' := 118) at_116 rfl (rfl) rfl ?_
          refine OwnW.iload (pc' := 120) at_118 rfl rfl ?_
          refine OwnW.iload (pc' := 122) at_120 rfl rfl ?_
          have F62 := (F51.keep K60 (ninS (by omega : @Ne Nat ad45 (ad46_0 + 1)) (ninS (by omega : @Ne Nat ad45 (ad46_1 + 1)) (ninS (by omega : @Ne Nat ad45 (ad46_2 + 1)) nin0))))
          have F63 := (F52.keep K60 (ninS (by omega : @Ne Nat ad46_0 (ad46_0 + 1)) (ninS (by omega : @Ne Nat ad46_0 (ad46_1 + 1)) (ninS (by omega : @Ne Nat ad46_0 (ad46_2 + 1)) nin0))))
          have F64 := (F50.keep K60)
          refine OwnW.callV0 (a0 := a0) (pc' := 125) (W := 0) (k' := 10) (n' := 21) (argsL := [(.int (0 : Int32)), (.int (0 : Int32))]) (rest := []) (St' := [(.long (f6_00 ad45 ad46_0 (ad46_0 + 1) (ad46_0 + 2) kc46_0 kc46_1 est (0 : Int64)))]) at_122 (hw _ (List.mem_of_getElem? (i := 36) rfl)) (hw _ (List.mem_of_getElem? (i := 37) rfl)) (hw _ (List.mem_of_getElem? (i := 39) rfl)) (hw _ (List.mem_of_getElem? (i := 38) rfl)) (hw _ (List.mem_of_getElem? (i := 2) rfl)) (hw _ (List.mem_of_getElem? (i := 40) rfl)) (by decide) F64 (rm6_00 l Z a0 hw ad45 ad46_0 (ad46_0 + 1) (ad46_0 + 2) kc46_0 kc46_1 est (0 : Int64) h60 n0 F62 F63 Fc60_0) (by decide) (by decide) rfl rfl (by decide) (by decide) rfl pd_28II29J rfl rfl rfl (Nat.le_of_ble_eq_true rfl) rfl rfl ?_
          refine OwnW.lloadN (pc' := 126) at_125 rfl rfl ?_
          refine OwnW.lcmp (pc' := 127) at_126 rfl ?_
          refine OwnW.ifcN (pc' := 130) at_127 ((if0 _ _).trans (teq ((lw_eq _ _).mpr rfl)).2) rfl ?_
          refine OwnW.aload (pc' := 132) at_130 rfl (rfl) rfl ?_
          refine OwnW.iload (pc' := 134) at_132 rfl rfl ?_
          refine OwnW.iload (pc' := 136) at_134 rfl rfl ?_
          have F65 := (F54.keep K60 (ninS (by omega : @Ne Nat ad45 (ad46_0 + 1)) (ninS (by omega : @Ne Nat ad45 (ad46_1 + 1)) (ninS (by omega : @Ne Nat ad45 (ad46_2 + 1)) nin0))))
          have F66 := (F55.keep K60 (ninS (by omega : @Ne Nat ad46_1 (ad46_0 + 1)) (ninS (by omega : @Ne Nat ad46_1 (ad46_1 + 1)) (ninS (by omega : @Ne Nat ad46_1 (ad46_2 + 1)) nin0))))
          refine OwnW.callV0 (a0 := a0) (pc' := 139) (W := 0) (k' := 10) (n' := 21) (argsL := [(.int (0 : Int32)), (.int (0 : Int32))]) (rest := []) (St' := [(.long (f7_00 ad45 ad46_1 (ad46_1 + 1) (ad46_1 + 2) kc46_2 kc46_3 (9223372036854775807 : Int64) (9223372036854775807 : Int64)))]) at_136 (hw _ (List.mem_of_getElem? (i := 41) rfl)) (hw _ (List.mem_of_getElem? (i := 42) rfl)) (hw _ (List.mem_of_getElem? (i := 44) rfl)) (hw _ (List.mem_of_getElem? (i := 43) rfl)) (hw _ (List.mem_of_getElem? (i := 2) rfl)) (hw _ (List.mem_of_getElem? (i := 45) rfl)) (by decide) F64 (rm7_00 l Z a0 hw ad45 ad46_1 (ad46_1 + 1) (ad46_1 + 2) kc46_2 kc46_3 (9223372036854775807 : Int64) (9223372036854775807 : Int64) h60 n0 F65 F66 Fc60_1) (by decide) (by decide) rfl rfl (by decide) (by decide) rfl pd_28II29J rfl rfl rfl (Nat.le_of_ble_eq_true rfl) rfl rfl ?_
          refine OwnW.ldc2J (a0 := a0) (pc' := 142) (v := (9223372036854775807 : Int64)) at_139 (hw _ (List.mem_of_getElem? (i := 46) rfl)) rfl ?_
          refine OwnW.lcmp (pc' := 143) at_142 rfl ?_
          refine OwnW.ifcN (pc' := 146) at_143 ((if0 _ _).trans (teq ((lw_eq _ _).mpr rfl)).2) rfl ?_
          refine OwnW.aload (pc' := 148) at_146 rfl (rfl) rfl ?_
          refine OwnW.iload (pc' := 150) at_148 rfl rfl ?_
          refine OwnW.iload (pc' := 152) at_150 rfl rfl ?_
          have F67 := (Fc48_0.keep K60 (ninS (by omega : @Ne Nat (ad46_0 + 2) (ad46_0 + 1)) (ninS (by omega : @Ne Nat (ad46_0 + 2) (ad46_1 + 1)) (ninS (by omega : @Ne Nat (ad46_0 + 2) (ad46_2 + 1)) nin0))))
          refine OwnW.callV0 (a0 := a0) (pc' := 155) (W := 0) (k' := 10) (n' := 21) (argsL := [(.int (1 : Int32)), (.int (0 : Int32))]) (rest := []) (St' := [(.long (f6_10 ad45 ad46_0 (ad46_0 + 1) (ad46_0 + 2) kc46_0 kc46_1 lo2 (0 : Int64)))]) at_152 (hw _ (List.mem_of_getElem? (i := 36) rfl)) (hw _ (List.mem_of_getElem? (i := 37) rfl)) (hw _ (List.mem_of_getElem? (i := 39) rfl)) (hw _ (List.mem_of_getElem? (i := 38) rfl)) (hw _ (List.mem_of_getElem? (i := 2) rfl)) (hw _ (List.mem_of_getElem? (i := 40) rfl)) (by decide) F64 (rm6_10 l Z a0 hw ad45 ad46_0 (ad46_0 + 1) (ad46_0 + 2) kc46_0 kc46_1 lo2 (0 : Int64) h60 n0 F62 F63 F67) (by decide) (by decide) rfl rfl (by decide) (by decide) rfl pd_28II29J rfl rfl rfl (Nat.le_of_ble_eq_true rfl) rfl rfl ?_
          refine OwnW.lload (pc' := 157) at_155 rfl rfl ?_
          refine OwnW.lcmp (pc' := 158) at_157 rfl ?_
          refine OwnW.ifcN (pc' := 161) at_158 ((if0 _ _).trans (teq ((lw_eq _ _).mpr rfl)).2) rfl ?_
          refine OwnW.aload (pc' := 163) at_161 rfl (rfl) rfl ?_
          refine OwnW.iload (pc' := 165) at_163 rfl rfl ?_
          refine OwnW.iload (pc' := 167) at_165 rfl rfl ?_
          have F68 := (Fc48_1.keep K60 (ninS (by omega : @Ne Nat (ad46_1 + 2) (ad46_0 + 1)) (ninS (by omega : @Ne Nat (ad46_1 + 2) (ad46_1 + 1)) (ninS (by omega : @Ne Nat (ad46_1 + 2) (ad46_2 + 1)) nin0))))
          refine OwnW.callV0 (a0 := a0) (pc' := 170) (W := 0) (k' := 10) (n' := 21) (argsL := [(.int (1 : Int32)), (.int (0 : Int32))]) (rest := []) (St' := [(.long (f7_10 ad45 ad46_1 (ad46_1 + 1) (ad46_1 + 2) kc46_2 kc46_3 up2 (9223372036854775807 : Int64)))]) at_167 (hw _ (List.mem_of_getElem? (i := 41) rfl)) (hw _ (List.mem_of_getElem? (i := 42) rfl)) (hw _ (List.mem_of_getElem? (i := 44) rfl)) (hw _ (List.mem_of_getElem? (i := 43) rfl)) (hw _ (List.mem_of_getElem? (i := 2) rfl)) (hw _ (List.mem_of_getElem? (i := 45) rfl)) (by decide) F64 (rm7_10 l Z a0 hw ad45 ad46_1 (ad46_1 + 1) (ad46_1 + 2) kc46_2 kc46_3 up2 (9223372036854775807 : Int64) h60 n0 F65 F66 F68) (by decide) (by decide) rfl rfl (by decide) (by decide) rfl pd_28II29J rfl rfl rfl (Nat.le_of_ble_eq_true rfl) rfl rfl ?_
          refine OwnW.lload (pc' := 172) at_170 rfl rfl ?_
          refine OwnW.lcmp (pc' := 173) at_172 rfl ?_
          refine OwnW.ifcN (pc' := 176) at_173 ((if0 _ _).trans (teq ((lw_eq _ _).mpr rfl)).2) rfl ?_
          refine OwnW.iconst (pc' := 177) (v := (1 : Int32)) at_176 rfl rfl ?_
          refine OwnW.goto (pc' := 181) at_177 (by decide) (by decide) ?_
          exact OwnW.retN (t := .boolean) at_181 rfl (by simp) rfl (by decide) (by decide) (rfl)
        ·
          refine OwnW.ifcN (pc' := 79) at_76 ((if0 _ _).trans (feq hc76).1) rfl ?_
          refine OwnW.aload (pc' := 81) at_79 rfl (rfl) rfl ?_
          refine OwnW.iload (pc' := 83) at_81 rfl rfl ?_
          refine OwnW.iload (pc' := 85) at_83 rfl rfl ?_
          refine OwnW.lloadN (pc' := 86) at_85 rfl rfl ?_
          refine OwnW.lload (pc' := 88) at_86 rfl rfl ?_
          refine OwnW.aconstNull (pc' := 89) at_88 rfl ?_
          refine OwnW.callV (a0 := a0) (pc' := 92) (W := 0) (k' := 10) (n' := 21) (argsL := [(.int (0 : Int32)), (.int (0 : Int32)), (.long lo1), (.long up1), .null]) (rest := []) at_89 (hw _ (List.mem_of_getElem? (i := 26) rfl)) (hw _ (List.mem_of_getElem? (i := 27) rfl)) (hw _ (List.mem_of_getElem? (i := 29) rfl)) (hw _ (List.mem_of_getElem? (i := 28) rfl)) (hw _ (List.mem_of_getElem? (i := 2) rfl)) (hw _ (List.mem_of_getElem? (i := 30) rfl)) (by decide) Fc46_0 (rm4_00 l Z a0 hw ad45 lo1 up1 ad46_0 (ad46_0 + 1) (ad46_0 + 2) kc46_0 kc46_1 (0 : Int64) (0 : Int64) ad46_1 (ad46_1 + 1) (ad46_1 + 2) kc46_2 kc46_3 (9223372036854775807 : Int64) (9223372036854775807 : Int64) ad46_2 (ad46_2 + 1) (ad46_2 + 2) kc46_4 kc46_5 h46 n0 sz47 (Nat.le_trans ge_ad46_0 (Nat.le_add_right _ _)) (Nat.le_trans ge_ad46_1 (Nat.le_add_right _ _)) (Nat.le_trans ge_ad46_2 (Nat.le_add_right _ _)) Fc46_0 Fc46_1 Fc46_4 Fc46_5 Fc46_2 Fc46_7 Fc46_8 Fc46_3 Fc46_10 Fc46_11 (by omega : @Ne Nat (ad46_0 + 1) ad46_1) (by omega : @Ne Nat (ad46_0 + 1) (ad46_1 + 1)) (by omega : @Ne Nat (ad46_0 + 1) ad46_2) (by omega : @Ne Nat (ad46_0 + 1) (ad46_2 + 1)) (by omega : @Ne Nat (ad46_0 + 1) ad45) (by omega : @Ne Nat (ad46_0 + 1) ad46_0) (by omega : @Ne Nat (ad46_1 + 1) ad46_2) (by omega : @Ne Nat (ad46_1 + 1) (ad46_2 + 1)) (by omega : @Ne Nat (ad46_1 + 1) ad45) (by omega : @Ne Nat (ad46_1 + 1) ad46_0) (by omega : @Ne Nat (ad46_1 + 1) ad46_1) (by omega : @Ne Nat (ad46_2 + 1) ad45) (by omega : @Ne Nat (ad46_2 + 1) ad46_0) (by omega : @Ne Nat (ad46_2 + 1) ad46_1) (by omega : @Ne Nat (ad46_2 + 1) ad46_2)) (by decide) (by decide) rfl rfl (by decide) (by decide) rfl pd_28IIJJLcom2fexample2fparley2fparley2ftreesearch2fSubtreeAssignment3b29V rfl rfl rfl (Nat.le_of_ble_eq_true rfl) rfl ?_
          rintro h69 v69 ⟨rfl, K69, Fc69_0, Fc69_1, Fc69_2⟩
          have sz70 : n0 ≤ h69.size := Nat.le_trans sz47 K69.1
          show GoB0 l Z n0 OwnW.One1 h69 10 21 92 #[.val (.int sel), .val (.long est), .second, .val (.long lo1), .second, .val (.long up1), .second, .val (.long lo2), .second, .val (.long up2), .second, .val (.int (0 : Int32)), .val (.int (0 : Int32)), .val (.int (0 : Int32)), .val (.int (2 : Int32)), .val (.int (1 : Int32)), .val (.int (0 : Int32)), .val (.int sb), .val (.ref ad45)] []
          refine OwnW.aload (pc' := 94) at_92 rfl (rfl) rfl ?_
          refine OwnW.iload (pc' := 96) at_94 rfl rfl ?_
          refine OwnW.iload (pc' := 98) at_96 rfl rfl ?_
          refine OwnW.lload (pc' := 100) at_98 rfl rfl ?_
          refine OwnW.lload (pc' := 102) at_100 rfl rfl ?_
          refine OwnW.aconstNull (pc' := 103) at_102 rfl ?_
          have F71 := (Fc46_0.keep K69)
          have F72 := (Fc46_1.keep K69 (ninS (by omega : @Ne Nat ad45 (ad46_0 + 1)) (ninS (by omega : @Ne Nat ad45 (ad46_1 + 1)) (ninS (by omega : @Ne Nat ad45 (ad46_2 + 1)) nin0))))
          have F73 := (Fc46_4.keep K69 (ninS (by omega : @Ne Nat ad46_0 (ad46_0 + 1)) (ninS (by omega : @Ne Nat ad46_0 (ad46_1 + 1)) (ninS (by omega : @Ne Nat ad46_0 (ad46_2 + 1)) nin0))))
          have F74 := (Fc46_6.keep K69 (ninS (by omega : @Ne Nat (ad46_0 + 2) (ad46_0 + 1)) (ninS (by omega : @Ne Nat (ad46_0 + 2) (ad46_1 + 1)) (ninS (by omega : @Ne Nat (ad46_0 + 2) (ad46_2 + 1)) nin0))))
          have F75 := (Fc46_2.keep K69 (ninS (by omega : @Ne Nat ad45 (ad46_0 + 1)) (ninS (by omega : @Ne Nat ad45 (ad46_1 + 1)) (ninS (by omega : @Ne Nat ad45 (ad46_2 + 1)) nin0))))
          have F76 := (Fc46_7.keep K69 (ninS (by omega : @Ne Nat ad46_1 (ad46_0 + 1)) (ninS (by omega : @Ne Nat ad46_1 (ad46_1 + 1)) (ninS (by omega : @Ne Nat ad46_1 (ad46_2 + 1)) nin0))))
          have F77 := (Fc46_9.keep K69 (ninS (by omega : @Ne Nat (ad46_1 + 2) (ad46_0 + 1)) (ninS (by omega : @Ne Nat (ad46_1 + 2) (ad46_1 + 1)) (ninS (by omega : @Ne Nat (ad46_1 + 2) (ad46_2 + 1)) nin0))))
          have F78 := (Fc46_3.keep K69 (ninS (by omega : @Ne Nat ad45 (ad46_0 + 1)) (ninS (by omega : @Ne Nat ad45 (ad46_1 + 1)) (ninS (by omega : @Ne Nat ad45 (ad46_2 + 1)) nin0))))
          have F79 := (Fc46_10.keep K69 (ninS (by omega : @Ne Nat ad46_2 (ad46_0 + 1)) (ninS (by omega : @Ne Nat ad46_2 (ad46_1 + 1)) (ninS (by omega : @Ne Nat ad46_2 (ad46_2 + 1)) nin0))))
          have F80 := (Fc46_12.keep K69 (ninS (by omega : @Ne Nat (ad46_2 + 2) (ad46_0 + 1)) (ninS (by omega : @Ne Nat (ad46_2 + 2) (ad46_1 + 1)) (ninS (by omega : @Ne Nat (ad46_2 + 2) (ad46_2 + 1)) nin0))))
          refine OwnW.callV (a0 := a0) (pc' := 106) (W := 0) (k' := 10) (n' := 21) (argsL := [(.int (1 : Int32)), (.int (0 : Int32)), (.long lo2), (.long up2), .null]) (rest := []) at_103 (hw _ (List.mem_of_getElem? (i := 26) rfl)) (hw _ (List.mem_of_getElem? (i := 27) rfl)) (hw _ (List.mem_of_getElem? (i := 29) rfl)) (hw _ (List.mem_of_getElem? (i := 28) rfl)) (hw _ (List.mem_of_getElem? (i := 2) rfl)) (hw _ (List.mem_of_getElem? (i := 30) rfl)) (by decide) F71 (rm4_10 l Z a0 hw ad45 lo2 up2 ad46_0 (ad46_0 + 1) (ad46_0 + 2) kc46_0 kc46_1 (0 : Int64) (0 : Int64) ad46_1 (ad46_1 + 1) (ad46_1 + 2) kc46_2 kc46_3 (9223372036854775807 : Int64) (9223372036854775807 : Int64) ad46_2 (ad46_2 + 1) (ad46_2 + 2) kc46_4 kc46_5 h69 n0 sz70 (Nat.le_trans ge_ad46_0 (Nat.le_add_right _ _)) (Nat.le_trans ge_ad46_1 (Nat.le_add_right _ _)) (Nat.le_trans ge_ad46_2 (Nat.le_add_right _ _)) F71 F72 F73 F74 F75 F76 F77 F78 F79 F80 (by omega : @Ne Nat (ad46_0 + 2) ad46_1) (by omega : @Ne Nat (ad46_0 + 2) (ad46_1 + 2)) (by omega : @Ne Nat (ad46_0 + 2) ad46_2) (by omega : @Ne Nat (ad46_0 + 2) (ad46_2 + 2)) (by omega : @Ne Nat (ad46_0 + 2) ad45) (by omega : @Ne Nat (ad46_0 + 2) ad46_0) (by omega : @Ne Nat (ad46_1 + 2) ad46_2) (by omega : @Ne Nat (ad46_1 + 2) (ad46_2 + 2)) (by omega : @Ne Nat (ad46_1 + 2) ad45) (by omega : @Ne Nat (ad46_1 + 2) ad46_0) (by omega : @Ne Nat (ad46_1 + 2) ad46_1) (by omega : @Ne Nat (ad46_2 + 2) ad45) (by omega : @Ne Nat (ad46_2 + 2) ad46_0) (by omega : @Ne Nat (ad46_2 + 2) ad46_1) (by omega : @Ne Nat (ad46_2 + 2) ad46_2)) (by decide) (by decide) rfl rfl (by decide) (by decide) rfl pd_28IIJJLcom2fexample2fparley2fparley2ftreesearch2fSubtreeAssignment3b29V rfl rfl rfl (Nat.le_of_ble_eq_true rfl) rfl ?_
          rintro h81 v81 ⟨rfl, K81, Fc81_0, Fc81_1, Fc81_2⟩
          have sz82 : n0 ≤ h81.size := Nat.le_trans sz70 K81.1
          show GoB0 l Z n0 OwnW.One1 h81 10 21 106 #[.val (.int sel), .val (.long est), .second, .val (.long lo1), .second, .val (.long up1), .second, .val (.long lo2), .second, .val (.long up2), .second, .val (.int (0 : Int32)), .val (.int (0 : Int32)), .val (.int (0 : Int32)), .val (.int (2 : Int32)), .val (.int (1 : Int32)), .val (.int (0 : Int32)), .val (.int sb), .val (.ref ad45)] []
          refine OwnW.aload (pc' := 108) at_106 rfl (rfl) rfl ?_
          refine OwnW.iload (pc' := 110) at_108 rfl rfl ?_
          refine OwnW.iload (pc' := 112) at_110 rfl rfl ?_
          refine OwnW.lloadN (pc' := 113) at_112 rfl rfl ?_
          have F83 := (F71.keep K81)
          have F84 := (F72.keep K81 (ninS (by omega : @Ne Nat ad45 (ad46_0 + 2)) (ninS (by omega : @Ne Nat ad45 (ad46_1 + 2)) (ninS (by omega : @Ne Nat ad45 (ad46_2 + 2)) nin0))))
          have F85 := (F73.keep K81 (ninS (by omega : @Ne Nat ad46_0 (ad46_0 + 2)) (ninS (by omega : @Ne Nat ad46_0 (ad46_1 + 2)) (ninS (by omega : @Ne Nat ad46_0 (ad46_2 + 2)) nin0))))
          have F86 := (Fc69_0.keep K81 (ninS (by omega : @Ne Nat (ad46_0 + 1) (ad46_0 + 2)) (ninS (by omega : @Ne Nat (ad46_0 + 1) (ad46_1 + 2)) (ninS (by omega : @Ne Nat (ad46_0 + 1) (ad46_2 + 2)) nin0))))
          have F87 := (F75.keep K81 (ninS (by omega : @Ne Nat ad45 (ad46_0 + 2)) (ninS (by omega : @Ne Nat ad45 (ad46_1 + 2)) (ninS (by omega : @Ne Nat ad45 (ad46_2 + 2)) nin0))))
          have F88 := (F76.keep K81 (ninS (by omega : @Ne Nat ad46_1 (ad46_0 + 2)) (ninS (by omega : @Ne Nat ad46_1 (ad46_1 + 2)) (ninS (by omega : @Ne Nat ad46_1 (ad46_2 + 2)) nin0))))
          have F89 := (Fc69_1.keep K81 (ninS (by omega : @Ne Nat (ad46_1 + 1) (ad46_0 + 2)) (ninS (by omega : @Ne Nat (ad46_1 + 1) (ad46_1 + 2)) (ninS (by omega : @Ne Nat (ad46_1 + 1) (ad46_2 + 2)) nin0))))
          have F90 := (F78.keep K81 (ninS (by omega : @Ne Nat ad45 (ad46_0 + 2)) (ninS (by omega : @Ne Nat ad45 (ad46_1 + 2)) (ninS (by omega : @Ne Nat ad45 (ad46_2 + 2)) nin0))))
          have F91 := (F79.keep K81 (ninS (by omega : @Ne Nat ad46_2 (ad46_0 + 2)) (ninS (by omega : @Ne Nat ad46_2 (ad46_1 + 2)) (ninS (by omega : @Ne Nat ad46_2 (ad46_2 + 2)) nin0))))
          have F92 := (Fc69_2.keep K81 (ninS (by omega : @Ne Nat (ad46_2 + 1) (ad46_0 + 2)) (ninS (by omega : @Ne Nat (ad46_2 + 1) (ad46_1 + 2)) (ninS (by omega : @Ne Nat (ad46_2 + 1) (ad46_2 + 2)) nin0))))
          refine OwnW.callV (a0 := a0) (pc' := 116) (W := 0) (k' := 10) (n' := 21) (argsL := [(.int (0 : Int32)), (.int (0 : Int32)), (.long est)]) (rest := []) at_113 (hw _ (List.mem_of_getElem? (i := 31) rfl)) (hw _ (List.mem_of_getElem? (i := 32) rfl)) (hw _ (List.mem_of_getElem? (i := 34) rfl)) (hw _ (List.mem_of_getElem? (i := 33) rfl)) (hw _ (List.mem_of_getElem? (i := 2) rfl)) (hw _ (List.mem_of_getElem? (i := 35) rfl)) (by decide) F83 (rm5_00 l Z a0 hw ad45 est ad46_0 (ad46_0 + 1) (ad46_0 + 2) kc46_0 kc46_1 lo1 (0 : Int64) ad46_1 (ad46_1 + 1) (ad46_1 + 2) kc46_2 kc46_3 up1 (9223372036854775807 : Int64) ad46_2 (ad46_2 + 1) (ad46_2 + 2) kc46_4 kc46_5 h81 n0 sz82 (Nat.le_trans ge_ad46_0 (Nat.le_add_right _ _)) (Nat.le_trans ge_ad46_1 (Nat.le_add_right _ _)) (Nat.le_trans ge_ad46_2 (Nat.le_add_right _ _)) F83 F84 F85 F86 F87 F88 F89 F90 F91 F92 (by omega : @Ne Nat (ad46_0 + 1) ad46_1) (by omega : @Ne Nat (ad46_0 + 1) (ad46_1 + 1)) (by omega : @Ne Nat (ad46_0 + 1) ad46_2) (by omega : @Ne Nat (ad46_0 + 1) (ad46_2 + 1)) (by omega : @Ne Nat (ad46_0 + 1) ad45) (by omega : @Ne Nat (ad46_0 + 1) ad46_0) (by omega : @Ne Nat (ad46_1 + 1) ad46_2) (by omega : @Ne Nat (ad46_1 + 1) (ad46_2 + 1)) (by omega : @Ne Nat (ad46_1 + 1) ad45) (by omega : @Ne Nat (ad46_1 + 1) ad46_0) (by omega : @Ne Nat (ad46_1 + 1) ad46_1) (by omega : @Ne Nat (ad46_2 + 1) ad45) (by omega : @Ne Nat (ad46_2 + 1) ad46_0) (by omega : @Ne Nat (ad46_2 + 1) ad46_1) (by omega : @Ne Nat (ad46_2 + 1) ad46_2)) (by decide) (by decide) rfl rfl (by decide) (by decide) rfl pd_28IIJ29V rfl rfl rfl (Nat.le_of_ble_eq_true rfl) rfl ?_
          rintro h93 v93 ⟨rfl, K93, Fc93_0, Fc93_1, Fc93_2⟩
          have sz94 : n0 ≤ h93.size := Nat.le_trans sz82 K93.1
          show GoB0 l Z n0 OwnW.One1 h93 10 21 116 #[.val (.int sel), .val (.long est), .second, .val (.long lo1), .second, .val (.long up1), .second, .val (.long lo2), .second, .val (.long up2), .second, .val (.int (0 : Int32)), .val (.int (0 : Int32)), .val (.int (0 : Int32)), .val (.int (2 : Int32)), .val (.int (1 : Int32)), .val (.int (0 : Int32)), .val (.int sb), .val (.ref ad45)] []
          refine OwnW.aload (pc' := 118) at_116 rfl (rfl) rfl ?_
          refine OwnW.iload (pc' := 120) at_118 rfl rfl ?_
          refine OwnW.iload (pc' := 122) at_120 rfl rfl ?_
          have F95 := (F84.keep K93 (ninS (by omega : @Ne Nat ad45 (ad46_0 + 1)) (ninS (by omega : @Ne Nat ad45 (ad46_1 + 1)) (ninS (by omega : @Ne Nat ad45 (ad46_2 + 1)) nin0))))
          have F96 := (F85.keep K93 (ninS (by omega : @Ne Nat ad46_0 (ad46_0 + 1)) (ninS (by omega : @Ne Nat ad46_0 (ad46_1 + 1)) (ninS (by omega : @Ne Nat ad46_0 (ad46_2 + 1)) nin0))))
          have F97 := (F83.keep K93)
          refine OwnW.callV0 (a0 := a0) (pc' := 125) (W := 0) (k' := 10) (n' := 21) (argsL := [(.int (0 : Int32)), (.int (0 : Int32))]) (rest := []) (St' := [(.long (f6_00 ad45 ad46_0 (ad46_0 + 1) (ad46_0 + 2) kc46_0 kc46_1 est (0 : Int64)))]) at_122 (hw _ (List.mem_of_getElem? (i := 36) rfl)) (hw _ (List.mem_of_getElem? (i := 37) rfl)) (hw _ (List.mem_of_getElem? (i := 39) rfl)) (hw _ (List.mem_of_getElem? (i := 38) rfl)) (hw _ (List.mem_of_getElem? (i := 2) rfl)) (hw _ (List.mem_of_getElem? (i := 40) rfl)) (by decide) F97 (rm6_00 l Z a0 hw ad45 ad46_0 (ad46_0 + 1) (ad46_0 + 2) kc46_0 kc46_1 est (0 : Int64) h93 n0 F95 F96 Fc93_0) (by decide) (by decide) rfl rfl (by decide) (by decide) rfl pd_28II29J rfl rfl rfl (Nat.le_of_ble_eq_true rfl) rfl rfl ?_
          refine OwnW.lloadN (pc' := 126) at_125 rfl rfl ?_
          refine OwnW.lcmp (pc' := 127) at_126 rfl ?_
          refine OwnW.ifcN (pc' := 130) at_127 ((if0 _ _).trans (teq ((lw_eq _ _).mpr rfl)).2) rfl ?_
          refine OwnW.aload (pc' := 132) at_130 rfl (rfl) rfl ?_
          refine OwnW.iload (pc' := 134) at_132 rfl rfl ?_
          refine OwnW.iload (pc' := 136) at_134 rfl rfl ?_
          have F98 := (F87.keep K93 (ninS (by omega : @Ne Nat ad45 (ad46_0 + 1)) (ninS (by omega : @Ne Nat ad45 (ad46_1 + 1)) (ninS (by omega : @Ne Nat ad45 (ad46_2 + 1)) nin0))))
          have F99 := (F88.keep K93 (ninS (by omega : @Ne Nat ad46_1 (ad46_0 + 1)) (ninS (by omega : @Ne Nat ad46_1 (ad46_1 + 1)) (ninS (by omega : @Ne Nat ad46_1 (ad46_2 + 1)) nin0))))
          refine OwnW.callV0 (a0 := a0) (pc' := 139) (W := 0) (k' := 10) (n' := 21) (argsL := [(.int (0 : Int32)), (.int (0 : Int32))]) (rest := []) (St' := [(.long (f7_00 ad45 ad46_1 (ad46_1 + 1) (ad46_1 + 2) kc46_2 kc46_3 (9223372036854775807 : Int64) (9223372036854775807 : Int64)))]) at_136 (hw _ (List.mem_of_getElem? (i := 41) rfl)) (hw _ (List.mem_of_getElem? (i := 42) rfl)) (hw _ (List.mem_of_getElem? (i := 44) rfl)) (hw _ (List.mem_of_getElem? (i := 43) rfl)) (hw _ (List.mem_of_getElem? (i := 2) rfl)) (hw _ (List.mem_of_getElem? (i := 45) rfl)) (by decide) F97 (rm7_00 l Z a0 hw ad45 ad46_1 (ad46_1 + 1) (ad46_1 + 2) kc46_2 kc46_3 (9223372036854775807 : Int64) (9223372036854775807 : Int64) h93 n0 F98 F99 Fc93_1) (by decide) (by decide) rfl rfl (by decide) (by decide) rfl pd_28II29J rfl rfl rfl (Nat.le_of_ble_eq_true rfl) rfl rfl ?_
          refine OwnW.ldc2J (a0 := a0) (pc' := 142) (v := (9223372036854775807 : Int64)) at_139 (hw _ (List.mem_of_getElem? (i := 46) rfl)) rfl ?_
          refine OwnW.lcmp (pc' := 143) at_142 rfl ?_
          refine OwnW.ifcN (pc' := 146) at_143 ((if0 _ _).trans (teq ((lw_eq _ _).mpr rfl)).2) rfl ?_
          refine OwnW.aload (pc' := 148) at_146 rfl (rfl) rfl ?_
          refine OwnW.iload (pc' := 150) at_148 rfl rfl ?_
          refine OwnW.iload (pc' := 152) at_150 rfl rfl ?_
          have F100 := (Fc81_0.keep K93 (ninS (by omega : @Ne Nat (ad46_0 + 2) (ad46_0 + 1)) (ninS (by omega : @Ne Nat (ad46_0 + 2) (ad46_1 + 1)) (ninS (by omega : @Ne Nat (ad46_0 + 2) (ad46_2 + 1)) nin0))))
          refine OwnW.callV0 (a0 := a0) (pc' := 155) (W := 0) (k' := 10) (n' := 21) (argsL := [(.int (1 : Int32)), (.int (0 : Int32))]) (rest := []) (St' := [(.long (f6_10 ad45 ad46_0 (ad46_0 + 1) (ad46_0 + 2) kc46_0 kc46_1 lo2 (0 : Int64)))]) at_152 (hw _ (List.mem_of_getElem? (i := 36) rfl)) (hw _ (List.mem_of_getElem? (i := 37) rfl)) (hw _ (List.mem_of_getElem? (i := 39) rfl)) (hw _ (List.mem_of_getElem? (i := 38) rfl)) (hw _ (List.mem_of_getElem? (i := 2) rfl)) (hw _ (List.mem_of_getElem? (i := 40) rfl)) (by decide) F97 (rm6_10 l Z a0 hw ad45 ad46_0 (ad46_0 + 1) (ad46_0 + 2) kc46_0 kc46_1 lo2 (0 : Int64) h93 n0 F95 F96 F100) (by decide) (by decide) rfl rfl (by decide) (by decide) rfl pd_28II29J rfl rfl rfl (Nat.le_of_ble_eq_true rfl) rfl rfl ?_
          refine OwnW.lload (pc' := 157) at_155 rfl rfl ?_
          refine OwnW.lcmp (pc' := 158) at_157 rfl ?_
          refine OwnW.ifcN (pc' := 161) at_158 ((if0 _ _).trans (teq ((lw_eq _ _).mpr rfl)).2) rfl ?_
          refine OwnW.aload (pc' := 163) at_161 rfl (rfl) rfl ?_
          refine OwnW.iload (pc' := 165) at_163 rfl rfl ?_
          refine OwnW.iload (pc' := 167) at_165 rfl rfl ?_
          have F101 := (Fc81_1.keep K93 (ninS (by omega : @Ne Nat (ad46_1 + 2) (ad46_0 + 1)) (ninS (by omega : @Ne Nat (ad46_1 + 2) (ad46_1 + 1)) (ninS (by omega : @Ne Nat (ad46_1 + 2) (ad46_2 + 1)) nin0))))
          refine OwnW.callV0 (a0 := a0) (pc' := 170) (W := 0) (k' := 10) (n' := 21) (argsL := [(.int (1 : Int32)), (.int (0 : Int32))]) (rest := []) (St' := [(.long (f7_10 ad45 ad46_1 (ad46_1 + 1) (ad46_1 + 2) kc46_2 kc46_3 up2 (9223372036854775807 : Int64)))]) at_167 (hw _ (List.mem_of_getElem? (i := 41) rfl)) (hw _ (List.mem_of_getElem? (i := 42) rfl)) (hw _ (List.mem_of_getElem? (i := 44) rfl)) (hw _ (List.mem_of_getElem? (i := 43) rfl)) (hw _ (List.mem_of_getElem? (i := 2) rfl)) (hw _ (List.mem_of_getElem? (i := 45) rfl)) (by decide) F97 (rm7_10 l Z a0 hw ad45 ad46_1 (ad46_1 + 1) (ad46_1 + 2) kc46_2 kc46_3 up2 (9223372036854775807 : Int64) h93 n0 F98 F99 F101) (by decide) (by decide) rfl rfl (by decide) (by decide) rfl pd_28II29J rfl rfl rfl (Nat.le_of_ble_eq_true rfl) rfl rfl ?_
          refine OwnW.lload (pc' := 172) at_170 rfl rfl ?_
          refine OwnW.lcmp (pc' := 173) at_172 rfl ?_
          refine OwnW.ifcN (pc' := 176) at_173 ((if0 _ _).trans (teq ((lw_eq _ _).mpr rfl)).2) rfl ?_
          refine OwnW.iconst (pc' := 177) (v := (1 : Int32)) at_176 rfl rfl ?_
          refine OwnW.goto (pc' := 181) at_177 (by decide) (by decide) ?_
          exact OwnW.retN (t := .boolean) at_181 rfl (by simp) rfl (by decide) (by decide) (rfl)
      ·
        show GoB0 l Z n0 OwnW.One1 h0 0 0 32 #[.val (.int sel), .val (.long est), .second, .val (.long lo1), .second, .val (.long up1), .second, .val (.long lo2), .second, .val (.long up2), .second, .val (.int (0 : Int32)), .val (.int (0 : Int32)), .val (.int (0 : Int32)), .unset, .unset, .unset, .unset, .unset] [(.int (2 : Int32)), (.int (1 : Int32))]
        refine OwnW.iadd (pc' := 33) at_32 rfl ?_
        show GoB0 l Z n0 OwnW.One1 h0 0 0 33 #[.val (.int sel), .val (.long est), .second, .val (.long lo1), .second, .val (.long up1), .second, .val (.long lo2), .second, .val (.long up2), .second, .val (.int (0 : Int32)), .val (.int (0 : Int32)), .val (.int (0 : Int32)), .unset, .unset, .unset, .unset, .unset] [(.int (3 : Int32))]
        refine OwnW.iconst (pc' := 34) (v := (3 : Int32)) at_33 rfl rfl ?_
        refine OwnW.iand (pc' := 35) at_34 rfl ?_
        show GoB0 l Z n0 OwnW.One1 h0 0 0 35 #[.val (.int sel), .val (.long est), .second, .val (.long lo1), .second, .val (.long up1), .second, .val (.long lo2), .second, .val (.long up2), .second, .val (.int (0 : Int32)), .val (.int (0 : Int32)), .val (.int (0 : Int32)), .unset, .unset, .unset, .unset, .unset] [(.int (3 : Int32))]
        refine OwnW.istore (pc' := 37) (L' := #[.val (.int sel), .val (.long est), .second, .val (.long lo1), .second, .val (.long up1), .second, .val (.long lo2), .second, .val (.long up2), .second, .val (.int (0 : Int32)), .val (.int (0 : Int32)), .val (.int (0 : Int32)), .val (.int (3 : Int32)), .unset, .unset, .unset, .unset]) at_35 rfl rfl ?_
        refine OwnW.iload (pc' := 39) at_37 rfl rfl ?_
        refine OwnW.iconst (pc' := 40) (v := (1 : Int32)) at_39 rfl rfl ?_
        refine OwnW.ishr (pc' := 41) at_40 rfl ?_
        show GoB0 l Z n0 OwnW.One1 h0 0 0 41 #[.val (.int sel), .val (.long est), .second, .val (.long lo1), .second, .val (.long up1), .second, .val (.long lo2), .second, .val (.long up2), .second, .val (.int (0 : Int32)), .val (.int (0 : Int32)), .val (.int (0 : Int32)), .val (.int (3 : Int32)), .unset, .unset, .unset, .unset] [(.int (1 : Int32))]
        refine OwnW.istore (pc' := 43) (L' := #[.val (.int sel), .val (.long est), .second, .val (.long lo1), .second, .val (.long up1), .second, .val (.long lo2), .second, .val (.long up2), .second, .val (.int (0 : Int32)), .val (.int (0 : Int32)), .val (.int (0 : Int32)), .val (.int (3 : Int32)), .val (.int (1 : Int32)), .unset, .unset, .unset]) at_41 rfl rfl ?_
        refine OwnW.iload (pc' := 45) at_43 rfl rfl ?_
        refine OwnW.iconst (pc' := 46) (v := (1 : Int32)) at_45 rfl rfl ?_
        refine OwnW.iand (pc' := 47) at_46 rfl ?_
        show GoB0 l Z n0 OwnW.One1 h0 0 0 47 #[.val (.int sel), .val (.long est), .second, .val (.long lo1), .second, .val (.long up1), .second, .val (.long lo2), .second, .val (.long up2), .second, .val (.int (0 : Int32)), .val (.int (0 : Int32)), .val (.int (0 : Int32)), .val (.int (3 : Int32)), .val (.int (1 : Int32)), .unset, .unset, .unset] [(.int (1 : Int32))]
        refine OwnW.istore (pc' := 49) (L' := #[.val (.int sel), .val (.long est), .second, .val (.long lo1), .second, .val (.long up1), .second, .val (.long lo2), .second, .val (.long up2), .second, .val (.int (0 : Int32)), .val (.int (0 : Int32)), .val (.int (0 : Int32)), .val (.int (3 : Int32)), .val (.int (1 : Int32)), .val (.int (1 : Int32)), .unset, .unset]) at_47 rfl rfl ?_
        refine OwnW.iloadN (pc' := 50) at_49 rfl rfl ?_
        refine OwnW.bipush (pc' := 52) (v := (16 : Int32)) at_50 rfl rfl ?_
        refine OwnW.iand (pc' := 53) at_52 rfl ?_
        suffices J53_61 : ∀ (sb : Int32), sb = (if (sel &&& (16 : Int32)) = (0 : Int32) then (0 : Int32) else (1 : Int32)) → GoB0 l Z n0 OwnW.One1 h0 0 0 61 #[.val (.int sel), .val (.long est), .second, .val (.long lo1), .second, .val (.long up1), .second, .val (.long lo2), .second, .val (.long up2), .second, .val (.int (0 : Int32)), .val (.int (0 : Int32)), .val (.int (0 : Int32)), .val (.int (3 : Int32)), .val (.int (1 : Int32)), .val (.int (1 : Int32)), .unset, .unset] [(.int sb)] by
          by_cases hc53 : (sel &&& (16 : Int32)) = (0 : Int32)
          ·
            refine OwnW.ifcY (pc' := 60) at_53 ((if0 _ _).trans (teq hc53).1) (by decide) (by decide) ?_
            refine OwnW.iconst (pc' := 61) (v := (0 : Int32)) at_60 rfl rfl ?_
            exact J53_61 _ (by first | simp only [if_pos hc53] | rfl)
          ·
            refine OwnW.ifcN (pc' := 56) at_53 ((if0 _ _).trans (feq hc53).1) rfl ?_
            refine OwnW.iconst (pc' := 57) (v := (1 : Int32)) at_56 rfl rfl ?_
            refine OwnW.goto (pc' := 61) at_57 (by decide) (by decide) ?_
            exact J53_61 _ (by first | simp only [if_neg hc53] | rfl)
        intro sb hsb
        refine OwnW.istore (pc' := 63) (L' := #[.val (.int sel), .val (.long est), .second, .val (.long lo1), .second, .val (.long up1), .second, .val (.long lo2), .second, .val (.long up2), .second, .val (.int (0 : Int32)), .val (.int (0 : Int32)), .val (.int (0 : Int32)), .val (.int (3 : Int32)), .val (.int (1 : Int32)), .val (.int (1 : Int32)), .val (.int sb), .unset]) at_61 rfl rfl ?_
        refine OwnW.newO (a0 := a0) (pc' := 66) (k' := 1) (n' := 3) at_63 (hw _ (List.mem_of_getElem? (i := 0) rfl)) (hw _ (List.mem_of_getElem? (i := 1) rfl)) (hw _ (List.mem_of_getElem? (i := 2) rfl)) rfl rfl (by decide) (by decide) rfl ?_
        intro h102 ad102 g102 E102 A102 D102
        have ge_ad102 : n0 ≤ ad102 := Nat.le_trans Z0 (Nat.le_of_eq g102.symm)
        have sz_ad102 : n0 ≤ h102.size := Nat.le_trans Z0 E102.1
        have F102_lower : Fld Z h102 ad102 "com/example/parley/parley/treesearch/ChildBounds" "lower" "[[J" .null := D102 (Or.inr (hw _ (List.mem_of_getElem? (i := 13) rfl))) (ty := (.array (.array .long))) (by decide)
        have F102_upper : Fld Z h102 ad102 "com/example/parley/parley/treesearch/ChildBounds" "upper" "[[J" .null := D102 (Or.inr (hw _ (List.mem_of_getElem? (i := 15) rfl))) (ty := (.array (.array .long))) (by decide)
        have F102_assignments : Fld Z h102 ad102 "com/example/parley/parley/treesearch/ChildBounds" "assignments" "[[Lcom/example/parley/parley/treesearch/SubtreeAssignment;" .null := D102 (Or.inr (hw _ (List.mem_of_getElem? (i := 20) rfl))) (ty := (.array (.array (.object "com/example/parley/parley/treesearch/SubtreeAssignment")))) (by decide)
        refine OwnW.dup (pc' := 67) at_66 rfl rfl ?_
        refine OwnW.iconst (pc' := 68) (v := (2 : Int32)) at_67 rfl rfl ?_
        refine OwnW.iconst (pc' := 69) (v := (2 : Int32)) at_68 rfl rfl ?_
        refine OwnW.callI (a0 := a0) (pc' := 72) (W := 1) (k' := 10) (n' := 21) (argsL := [(.int (2 : Int32)), (.int (2 : Int32))]) (rest := [(.ref ad102)]) at_69 rfl (hw _ (List.mem_of_getElem? (i := 3) rfl)) (hw _ (List.mem_of_getElem? (i := 4) rfl)) (hw _ (List.mem_of_getElem? (i := 2) rfl)) (hw _ (List.mem_of_getElem? (i := 5) rfl)) (by decide) (rm1 l Z a0 hw ad102 h102 n0 sz_ad102 ge_ad102 A102 F102_lower F102_upper F102_assignments) (by decide) (by decide) rfl rfl (by decide) (by decide) rfl pd_28II29V rfl rfl rfl (Nat.le_of_ble_eq_true rfl) rfl ?_
        rintro h103 v103 ⟨ad103_0, ad103_1, ad103_2, kc103_0, kc103_1, kc103_2, kc103_3, kc103_4, kc103_5, rfl, K103, gl103_0, gl103_1, gl103_2, nn103_0_1, nn103_0_2, nn103_1_2, pp103_0, pp103_1, Fc103_0, Fc103_1, Fc103_2, Fc103_3, Fc103_4, Fc103_5, Fc103_6, Fc103_7, Fc103_8, Fc103_9, Fc103_10, Fc103_11, Fc103_12, Fc103_13⟩
        have lt_ad102_ad103_0 : @LT.lt Nat _ ad102 ad103_0 := Nat.lt_of_lt_of_le (A102).lt gl103_0
        have ge_ad103_0 : n0 ≤ ad103_0 := Nat.le_trans sz_ad102 gl103_0
        have lt_ad102_ad103_1 : @LT.lt Nat _ ad102 ad103_1 := Nat.lt_of_lt_of_le (A102).lt gl103_1
        have ge_ad103_1 : n0 ≤ ad103_1 := Nat.le_trans sz_ad102 gl103_1
        have lt_ad102_ad103_2 : @LT.lt Nat _ ad102 ad103_2 := Nat.lt_of_lt_of_le (A102).lt gl103_2
        have ge_ad103_2 : n0 ≤ ad103_2 := Nat.le_trans sz_ad102 gl103_2
        have sz104 : n0 ≤ h103.size := Nat.le_trans sz_ad102 K103.1
        show GoB0 l Z n0 OwnW.One1 h103 10 21 72 #[.val (.int sel), .val (.long est), .second, .val (.long lo1), .second, .val (.long up1), .second, .val (.long lo2), .second, .val (.long up2), .second, .val (.int (0 : Int32)), .val (.int (0 : Int32)), .val (.int (0 : Int32)), .val (.int (3 : Int32)), .val (.int (1 : Int32)), .val (.int (1 : Int32)), .val (.int sb), .unset] [(.ref ad102)]
        refine OwnW.astore (pc' := 74) (L' := #[.val (.int sel), .val (.long est), .second, .val (.long lo1), .second, .val (.long up1), .second, .val (.long lo2), .second, .val (.long up2), .second, .val (.int (0 : Int32)), .val (.int (0 : Int32)), .val (.int (0 : Int32)), .val (.int (3 : Int32)), .val (.int (1 : Int32)), .val (.int (1 : Int32)), .val (.int sb), .val (.ref ad102)]) at_72 (rfl) rfl rfl ?_
        refine OwnW.iload (pc' := 76) at_74 rfl rfl ?_
        by_cases hc76 : sb = (0 : Int32)
        ·
          refine OwnW.ifcY (pc' := 92) at_76 ((if0 _ _).trans (teq hc76).1) (by decide) (by decide) ?_
          refine OwnW.aload (pc' := 94) at_92 rfl (rfl) rfl ?_
          refine OwnW.iload (pc' := 96) at_94 rfl rfl ?_
          refine OwnW.iload (pc' := 98) at_96 rfl rfl ?_
          refine OwnW.lload (pc' := 100) at_98 rfl rfl ?_
          refine OwnW.lload (pc' := 102) at_100 rfl rfl ?_
          refine OwnW.aconstNull (pc' := 103) at_102 rfl ?_
          refine OwnW.callV (a0 := a0) (pc' := 106) (W := 0) (k' := 10) (n' := 21) (argsL := [(.int (1 : Int32)), (.int (1 : Int32)), (.long lo2), (.long up2), .null]) (rest := []) at_103 (hw _ (List.mem_of_getElem? (i := 26) rfl)) (hw _ (List.mem_of_getElem? (i := 27) rfl)) (hw _ (List.mem_of_getElem? (i := 29) rfl)) (hw _ (List.mem_of_getElem? (i := 28) rfl)) (hw _ (List.mem_of_getElem? (i := 2) rfl)) (hw _ (List.mem_of_getElem? (i := 30) rfl)) (by decide) Fc103_0 (rm4_11 l Z a0 hw ad102 lo2 up2 ad103_0 (ad103_0 + 1) (ad103_0 + 2) kc103_0 kc103_1 (0 : Int64) (0 : Int64) ad103_1 (ad103_1 + 1) (ad103_1 + 2) kc103_2 kc103_3 (9223372036854775807 : Int64) (9223372036854775807 : Int64) ad103_2 (ad103_2 + 1) (ad103_2 + 2) kc103_4 kc103_5 h103 n0 sz104 (Nat.le_trans ge_ad103_0 (Nat.le_add_right _ _)) (Nat.le_trans ge_ad103_1 (Nat.le_add_right _ _)) (Nat.le_trans ge_ad103_2 (Nat.le_add_right _ _)) Fc103_0 Fc103_1 Fc103_4 Fc103_6 Fc103_2 Fc103_7 Fc103_9 Fc103_3 Fc103_10 Fc103_12 (by omega : @Ne Nat (ad103_0 + 2) ad103_1) (by omega : @Ne Nat (ad103_0 + 2) (ad103_1 + 2)) (by omega : @Ne Nat (ad103_0 + 2) ad103_2) (by omega : @Ne Nat (ad103_0 + 2) (ad103_2 + 2)) (by omega : @Ne Nat (ad103_0 + 2) ad102) (by omega : @Ne Nat (ad103_0 + 2) ad103_0) (by omega : @Ne Nat (ad103_1 + 2) ad103_2) (by omega : @Ne Nat (ad103_1 + 2) (ad103_2 + 2)) (by omega : @Ne Nat (ad103_1 + 2) ad102) (by omega : @Ne Nat (ad103_1 + 2) ad103_0) (by omega : @Ne Nat (ad103_1 + 2) ad103_1) (by omega : @Ne Nat (ad103_2 + 2) ad102) (by omega : @Ne Nat (ad103_2 + 2) ad103_0) (by omega : @Ne Nat (ad103_2 + 2) ad103_1) (by omega : @Ne Nat (ad103_2 + 2) ad103_2)) (by decide) (by decide) rfl rfl (by decide) (by decide) rfl pd_28IIJJLcom2fexample2fparley2fparley2ftreesearch2fSubtreeAssignment3b29V rfl rfl rfl (Nat.le_of_ble_eq_true rfl) rfl ?_
          rintro h105 v105 ⟨rfl, K105, Fc105_0, Fc105_1, Fc105_2⟩
          have sz106 : n0 ≤ h105.size := Nat.le_trans sz104 K105.1
          show GoB0 l Z n0 OwnW.One1 h105 10 21 106 #[.val (.int sel), .val (.long est), .second, .val (.long lo1), .second, .val (.long up1), .second, .val (.long lo2), .second, .val (.long up2), .second, .val (.int (0 : Int32)), .val (.int (0 : Int32)), .val (.int (0 : Int32)), .val (.int (3 : Int32)), .val (.int (1 : Int32)), .val (.int (1 : Int32)), .val (.int sb), .val (.ref ad102)] []
          refine OwnW.aload (pc' := 108) at_106 rfl (rfl) rfl ?_
          refine OwnW.iload (pc' := 110) at_108 rfl rfl ?_
          refine OwnW.iload (pc' := 112) at_110 rfl rfl ?_
          refine OwnW.lloadN (pc' := 113) at_112 rfl rfl ?_
          have F107 := (Fc103_0.keep K105)
          have F108 := (Fc103_1.keep K105 (ninS (by omega : @Ne Nat ad102 (ad103_0 + 2)) (ninS (by omega : @Ne Nat ad102 (ad103_1 + 2)) (ninS (by omega : @Ne Nat ad102 (ad103_2 + 2)) nin0))))
          have F109 := (Fc103_4.keep K105 (ninS (by omega : @Ne Nat ad103_0 (ad103_0 + 2)) (ninS (by omega : @Ne Nat ad103_0 (ad103_1 + 2)) (ninS (by omega : @Ne Nat ad103_0 (ad103_2 + 2)) nin0))))
          have F110 := (Fc103_5.keep K105 (ninS (by omega : @Ne Nat (ad103_0 + 1) (ad103_0 + 2)) (ninS (by omega : @Ne Nat (ad103_0 + 1) (ad103_1 + 2)) (ninS (by omega : @Ne Nat (ad103_0 + 1) (ad103_2 + 2)) nin0))))
          have F111 := (Fc103_2.keep K105 (ninS (by omega : @Ne Nat ad102 (ad103_0 + 2)) (ninS (by omega : @Ne Nat ad102 (ad103_1 + 2)) (ninS (by omega : @Ne Nat ad102 (ad103_2 + 2)) nin0))))
          have F112 := (Fc103_7.keep K105 (ninS (by omega : @Ne Nat ad103_1 (ad103_0 + 2)) (ninS (by omega : @Ne Nat ad103_1 (ad103_1 + 2)) (ninS (by omega : @Ne Nat ad103_1 (ad103_2 + 2)) nin0))))
          have F113 := (Fc103_8.keep K105 (ninS (by omega : @Ne Nat (ad103_1 + 1) (ad103_0 + 2)) (ninS (by omega : @Ne Nat (ad103_1 + 1) (ad103_1 + 2)) (ninS (by omega : @Ne Nat (ad103_1 + 1) (ad103_2 + 2)) nin0))))
          have F114 := (Fc103_3.keep K105 (ninS (by omega : @Ne Nat ad102 (ad103_0 + 2)) (ninS (by omega : @Ne Nat ad102 (ad103_1 + 2)) (ninS (by omega : @Ne Nat ad102 (ad103_2 + 2)) nin0))))
          have F115 := (Fc103_10.keep K105 (ninS (by omega : @Ne Nat ad103_2 (ad103_0 + 2)) (ninS (by omega : @Ne Nat ad103_2 (ad103_1 + 2)) (ninS (by omega : @Ne Nat ad103_2 (ad103_2 + 2)) nin0))))
          have F116 := (Fc103_11.keep K105 (ninS (by omega : @Ne Nat (ad103_2 + 1) (ad103_0 + 2)) (ninS (by omega : @Ne Nat (ad103_2 + 1) (ad103_1 + 2)) (ninS (by omega : @Ne Nat (ad103_2 + 1) (ad103_2 + 2)) nin0))))
          refine OwnW.callV (a0 := a0) (pc' := 116) (W := 0) (k' := 10) (n' := 21) (argsL := [(.int (0 : Int32)), (.int (0 : Int32)), (.long est)]) (rest := []) at_113 (hw _ (List.mem_of_getElem? (i := 31) rfl)) (hw _ (List.mem_of_getElem? (i := 32) rfl)) (hw _ (List.mem_of_getElem? (i := 34) rfl)) (hw _ (List.mem_of_getElem? (i := 33) rfl)) (hw _ (List.mem_of_getElem? (i := 2) rfl)) (hw _ (List.mem_of_getElem? (i := 35) rfl)) (by decide) F107 (rm5_00 l Z a0 hw ad102 est ad103_0 (ad103_0 + 1) (ad103_0 + 2) kc103_0 kc103_1 (0 : Int64) (0 : Int64) ad103_1 (ad103_1 + 1) (ad103_1 + 2) kc103_2 kc103_3 (9223372036854775807 : Int64) (9223372036854775807 : Int64) ad103_2 (ad103_2 + 1) (ad103_2 + 2) kc103_4 kc103_5 h105 n0 sz106 (Nat.le_trans ge_ad103_0 (Nat.le_add_right _ _)) (Nat.le_trans ge_ad103_1 (Nat.le_add_right _ _)) (Nat.le_trans ge_ad103_2 (Nat.le_add_right _ _)) F107 F108 F109 F110 F111 F112 F113 F114 F115 F116 (by omega : @Ne Nat (ad103_0 + 1) ad103_1) (by omega : @Ne Nat (ad103_0 + 1) (ad103_1 + 1)) (by omega : @Ne Nat (ad103_0 + 1) ad103_2) (by omega : @Ne Nat (ad103_0 + 1) (ad103_2 + 1)) (by omega : @Ne Nat (ad103_0 + 1) ad102) (by omega : @Ne Nat (ad103_0 + 1) ad103_0) (by omega : @Ne Nat (ad103_1 + 1) ad103_2) (by omega : @Ne Nat (ad103_1 + 1) (ad103_2 + 1)) (by omega : @Ne Nat (ad103_1 + 1) ad102) (by omega : @Ne Nat (ad103_1 + 1) ad103_0) (by omega : @Ne Nat (ad103_1 + 1) ad103_1) (by omega : @Ne Nat (ad103_2 + 1) ad102) (by omega : @Ne Nat (ad103_2 + 1) ad103_0) (by omega : @Ne Nat (ad103_2 + 1) ad103_1) (by omega : @Ne Nat (ad103_2 + 1) ad103_2)) (by decide) (by decide) rfl rfl (by decide) (by decide) rfl pd_28IIJ29V rfl rfl rfl (Nat.le_of_ble_eq_true rfl) rfl ?_
          rintro h117 v117 ⟨rfl, K117, Fc117_0, Fc117_1, Fc117_2⟩
          have sz118 : n0 ≤ h117.size := Nat.le_trans sz106 K117.1
          show GoB0 l Z n0 OwnW.One1 h117 10 21 116 #[.val (.int sel), .val (.long est), .second, .val (.long lo1), .second, .val (.long up1), .second, .val (.long lo2), .second, .val (.long up2), .second, .val (.int (0 : Int32)), .val (.int (0 : Int32)), .val (.int (0 : Int32)), .val (.int (3 : Int32)), .val (.int (1 : Int32)), .val (.int (1 : Int32)), .val (.int sb), .val (.ref ad102)] []
          refine OwnW.aload (pc' := 118) at_116 rfl (rfl) rfl ?_
          refine OwnW.iload (pc' := 120) at_118 rfl rfl ?_
          refine OwnW.iload (pc' := 122) at_120 rfl rfl ?_
          have F119 := (F108.keep K117 (ninS (by omega : @Ne Nat ad102 (ad103_0 + 1)) (ninS (by omega : @Ne Nat ad102 (ad103_1 + 1)) (ninS (by omega : @Ne Nat ad102 (ad103_2 + 1)) nin0))))
          have F120 := (F109.keep K117 (ninS (by omega : @Ne Nat ad103_0 (ad103_0 + 1)) (ninS (by omega : @Ne Nat ad103_0 (ad103_1 + 1)) (ninS (by omega : @Ne Nat ad103_0 (ad103_2 + 1)) nin0))))
          have F121 := (F107.keep K117)
          refine OwnW.callV0 (a0 := a0) (pc' := 125) (W := 0) (k' := 10) (n' := 21) (argsL := [(.int (0 : Int32)), (.int (0 : Int32))]) (rest := []) (St' := [(.long (f6_00 ad102 ad103_0 (ad103_0 + 1) (ad103_0 + 2) kc103_0 kc103_1 est (0 : Int64)))]) at_122 (hw _ (List.mem_of_getElem? (i := 36) rfl)) (hw _ (List.mem_of_getElem? (i := 37) rfl)) (hw _ (List.mem_of_getElem? (i := 39) rfl)) (hw _ (List.mem_of_getElem? (i := 38) rfl)) (hw _ (List.mem_of_getElem? (i := 2) rfl)) (hw _ (List.mem_of_getElem? (i := 40) rfl)) (by decide) F121 (rm6_00 l Z a0 hw ad102 ad103_0 (ad103_0 + 1) (ad103_0 + 2) kc103_0 kc103_1 est (0 : Int64) h117 n0 F119 F120 Fc117_0) (by decide) (by decide) rfl rfl (by decide) (by decide) rfl pd_28II29J rfl rfl rfl (Nat.le_of_ble_eq_true rfl) rfl rfl ?_
          refine OwnW.lloadN (pc' := 126) at_125 rfl rfl ?_
          refine OwnW.lcmp (pc' := 127) at_126 rfl ?_
          refine OwnW.ifcN (pc' := 130) at_127 ((if0 _ _).trans (teq ((lw_eq _ _).mpr rfl)).2) rfl ?_
          refine OwnW.aload (pc' := 132) at_130 rfl (rfl) rfl ?_
          refine OwnW.iload (pc' := 134) at_132 rfl rfl ?_
          refine OwnW.iload (pc' := 136) at_134 rfl rfl ?_
          have F122 := (F111.keep K117 (ninS (by omega : @Ne Nat ad102 (ad103_0 + 1)) (ninS (by omega : @Ne Nat ad102 (ad103_1 + 1)) (ninS (by omega : @Ne Nat ad102 (ad103_2 + 1)) nin0))))
          have F123 := (F112.keep K117 (ninS (by omega : @Ne Nat ad103_1 (ad103_0 + 1)) (ninS (by omega : @Ne Nat ad103_1 (ad103_1 + 1)) (ninS (by omega : @Ne Nat ad103_1 (ad103_2 + 1)) nin0))))
          refine OwnW.callV0 (a0 := a0) (pc' := 139) (W := 0) (k' := 10) (n' := 21) (argsL := [(.int (0 : Int32)), (.int (0 : Int32))]) (rest := []) (St' := [(.long (f7_00 ad102 ad103_1 (ad103_1 + 1) (ad103_1 + 2) kc103_2 kc103_3 (9223372036854775807 : Int64) (9223372036854775807 : Int64)))]) at_136 (hw _ (List.mem_of_getElem? (i := 41) rfl)) (hw _ (List.mem_of_getElem? (i := 42) rfl)) (hw _ (List.mem_of_getElem? (i := 44) rfl)) (hw _ (List.mem_of_getElem? (i := 43) rfl)) (hw _ (List.mem_of_getElem? (i := 2) rfl)) (hw _ (List.mem_of_getElem? (i := 45) rfl)) (by decide) F121 (rm7_00 l Z a0 hw ad102 ad103_1 (ad103_1 + 1) (ad103_1 + 2) kc103_2 kc103_3 (9223372036854775807 : Int64) (9223372036854775807 : Int64) h117 n0 F122 F123 Fc117_1) (by decide) (by decide) rfl rfl (by decide) (by decide) rfl pd_28II29J rfl rfl rfl (Nat.le_of_ble_eq_true rfl) rfl rfl ?_
          refine OwnW.ldc2J (a0 := a0) (pc' := 142) (v := (9223372036854775807 : Int64)) at_139 (hw _ (List.mem_of_getElem? (i := 46) rfl)) rfl ?_
          refine OwnW.lcmp (pc' := 143) at_142 rfl ?_
          refine OwnW.ifcN (pc' := 146) at_143 ((if0 _ _).trans (teq ((lw_eq _ _).mpr rfl)).2) rfl ?_
          refine OwnW.aload (pc' := 148) at_146 rfl (rfl) rfl ?_
          refine OwnW.iload (pc' := 150) at_148 rfl rfl ?_
          refine OwnW.iload (pc' := 152) at_150 rfl rfl ?_
          have F124 := (Fc105_0.keep K117 (ninS (by omega : @Ne Nat (ad103_0 + 2) (ad103_0 + 1)) (ninS (by omega : @Ne Nat (ad103_0 + 2) (ad103_1 + 1)) (ninS (by omega : @Ne Nat (ad103_0 + 2) (ad103_2 + 1)) nin0))))
          refine OwnW.callV0 (a0 := a0) (pc' := 155) (W := 0) (k' := 10) (n' := 21) (argsL := [(.int (1 : Int32)), (.int (1 : Int32))]) (rest := []) (St' := [(.long (f6_11 ad102 ad103_0 (ad103_0 + 1) (ad103_0 + 2) kc103_0 kc103_1 (0 : Int64) lo2))]) at_152 (hw _ (List.mem_of_getElem? (i := 36) rfl)) (hw _ (List.mem_of_getElem? (i := 37) rfl)) (hw _ (List.mem_of_getElem? (i := 39) rfl)) (hw _ (List.mem_of_getElem? (i := 38) rfl)) (hw _ (List.mem_of_getElem? (i := 2) rfl)) (hw _ (List.mem_of_getElem? (i := 40) rfl)) (by decide) F121 (rm6_11 l Z a0 hw ad102 ad103_0 (ad103_0 + 1) (ad103_0 + 2) kc103_0 kc103_1 (0 : Int64) lo2 h117 n0 F119 F120 F124) (by decide) (by decide) rfl rfl (by decide) (by decide) rfl pd_28II29J rfl rfl rfl (Nat.le_of_ble_eq_true rfl) rfl rfl ?_
          refine OwnW.lload (pc' := 157) at_155 rfl rfl ?_
          refine OwnW.lcmp (pc' := 158) at_157 rfl ?_
          refine OwnW.ifcN (pc' := 161) at_158 ((if0 _ _).trans (teq ((lw_eq _ _).mpr rfl)).2) rfl ?_
          refine OwnW.aload (pc' := 163) at_161 rfl (rfl) rfl ?_
          refine OwnW.iload (pc' := 165) at_163 rfl rfl ?_
          refine OwnW.iload (pc' := 167) at_165 rfl rfl ?_
          have F125 := (Fc105_1.keep K117 (ninS (by omega : @Ne Nat (ad103_1 + 2) (ad103_0 + 1)) (ninS (by omega : @Ne Nat (ad103_1 + 2) (ad103_1 + 1)) (ninS (by omega : @Ne Nat (ad103_1 + 2) (ad103_2 + 1)) nin0))))
          refine OwnW.callV0 (a0 := a0) (pc' := 170) (W := 0) (k' := 10) (n' := 21) (argsL := [(.int (1 : Int32)), (.int (1 : Int32))]) (rest := []) (St' := [(.long (f7_11 ad102 ad103_1 (ad103_1 + 1) (ad103_1 + 2) kc103_2 kc103_3 (9223372036854775807 : Int64) up2))]) at_167 (hw _ (List.mem_of_getElem? (i := 41) rfl)) (hw _ (List.mem_of_getElem? (i := 42) rfl)) (hw _ (List.mem_of_getElem? (i := 44) rfl)) (hw _ (List.mem_of_getElem? (i := 43) rfl)) (hw _ (List.mem_of_getElem? (i := 2) rfl)) (hw _ (List.mem_of_getElem? (i := 45) rfl)) (by decide) F121 (rm7_11 l Z a0 hw ad102 ad103_1 (ad103_1 + 1) (ad103_1 + 2) kc103_2 kc103_3 (9223372036854775807 : Int64) up2 h117 n0 F122 F123 F125) (by decide) (by decide) rfl rfl (by decide) (by decide) rfl pd_28II29J rfl rfl rfl (Nat.le_of_ble_eq_true rfl) rfl rfl ?_
          refine OwnW.lload (pc' := 172) at_170 rfl rfl ?_
          refine OwnW.lcmp (pc' := 173) at_172 rfl ?_
          refine OwnW.ifcN (pc' := 176) at_173 ((if0 _ _).trans (teq ((lw_eq _ _).mpr rfl)).2) rfl ?_
          refine OwnW.iconst (pc' := 177) (v := (1 : Int32)) at_176 rfl rfl ?_
          refine OwnW.goto (pc' := 181) at_177 (by decide) (by decide) ?_
          exact OwnW.retN (t := .boolean) at_181 rfl (by simp) rfl (by decide) (by decide) (rfl)
        ·
          refine OwnW.ifcN (pc' := 79) at_76 ((if0 _ _).trans (feq hc76).1) rfl ?_
          refine OwnW.aload (pc' := 81) at_79 rfl (rfl) rfl ?_
          refine OwnW.iload (pc' := 83) at_81 rfl rfl ?_
          refine OwnW.iload (pc' := 85) at_83 rfl rfl ?_
          refine OwnW.lloadN (pc' := 86) at_85 rfl rfl ?_
          refine OwnW.lload (pc' := 88) at_86 rfl rfl ?_
          refine OwnW.aconstNull (pc' := 89) at_88 rfl ?_
          refine OwnW.callV (a0 := a0) (pc' := 92) (W := 0) (k' := 10) (n' := 21) (argsL := [(.int (0 : Int32)), (.int (0 : Int32)), (.long lo1), (.long up1), .null]) (rest := []) at_89 (hw _ (List.mem_of_getElem? (i := 26) rfl)) (hw _ (List.mem_of_getElem? (i := 27) rfl)) (hw _ (List.mem_of_getElem? (i := 29) rfl)) (hw _ (List.mem_of_getElem? (i := 28) rfl)) (hw _ (List.mem_of_getElem? (i := 2) rfl)) (hw _ (List.mem_of_getElem? (i := 30) rfl)) (by decide) Fc103_0 (rm4_00 l Z a0 hw ad102 lo1 up1 ad103_0 (ad103_0 + 1) (ad103_0 + 2) kc103_0 kc103_1 (0 : Int64) (0 : Int64) ad103_1 (ad103_1 + 1) (ad103_1 + 2) kc103_2 kc103_3 (9223372036854775807 : Int64) (9223372036854775807 : Int64) ad103_2 (ad103_2 + 1) (ad103_2 + 2) kc103_4 kc103_5 h103 n0 sz104 (Nat.le_trans ge_ad103_0 (Nat.le_add_right _ _)) (Nat.le_trans ge_ad103_1 (Nat.le_add_right _ _)) (Nat.le_trans ge_ad103_2 (Nat.le_add_right _ _)) Fc103_0 Fc103_1 Fc103_4 Fc103_5 Fc103_2 Fc103_7 Fc103_8 Fc103_3 Fc103_10 Fc103_11 (by omega : @Ne Nat (ad103_0 + 1) ad103_1) (by omega : @Ne Nat (ad103_0 + 1) (ad103_1 + 1)) (by omega : @Ne Nat (ad103_0 + 1) ad103_2) (by omega : @Ne Nat (ad103_0 + 1) (ad103_2 + 1)) (by omega : @Ne Nat (ad103_0 + 1) ad102) (by omega : @Ne Nat (ad103_0 + 1) ad103_0) (by omega : @Ne Nat (ad103_1 + 1) ad103_2) (by omega : @Ne Nat (ad103_1 + 1) (ad103_2 + 1)) (by omega : @Ne Nat (ad103_1 + 1) ad102) (by omega : @Ne Nat (ad103_1 + 1) ad103_0) (by omega : @Ne Nat (ad103_1 + 1) ad103_1) (by omega : @Ne Nat (ad103_2 + 1) ad102) (by omega : @Ne Nat (ad103_2 + 1) ad103_0) (by omega : @Ne Nat (ad103_2 + 1) ad103_1) (by omega : @Ne Nat (ad103_2 + 1) ad103_2)) (by decide) (by decide) rfl rfl (by decide) (by decide) rfl pd_28IIJJLcom2fexample2fparley2fparley2ftreesearch2fSubtreeAssignment3b29V rfl rfl rfl (Nat.le_of_ble_eq_true rfl) rfl ?_
          rintro h126 v126 ⟨rfl, K126, Fc126_0, Fc126_1, Fc126_2⟩
          have sz127 : n0 ≤ h126.size := Nat.le_trans sz104 K126.1
          show GoB0 l Z n0 OwnW.One1 h126 10 21 92 #[.val (.int sel), .val (.long est), .second, .val (.long lo1), .second, .val (.long up1), .second, .val (.long lo2), .second, .val (.long up2), .second, .val (.int (0 : Int32)), .val (.int (0 : Int32)), .val (.int (0 : Int32)), .val (.int (3 : Int32)), .val (.int (1 : Int32)), .val (.int (1 : Int32)), .val (.int sb), .val (.ref ad102)] []
          refine OwnW.aload (pc' := 94) at_92 rfl (rfl) rfl ?_
          refine OwnW.iload (pc' := 96) at_94 rfl rfl ?_
          refine OwnW.iload (pc' := 98) at_96 rfl rfl ?_
          refine OwnW.lload (pc' := 100) at_98 rfl rfl ?_
          refine OwnW.lload (pc' := 102) at_100 rfl rfl ?_
          refine OwnW.aconstNull (pc' := 103) at_102 rfl ?_
          have F128 := (Fc103_0.keep K126)
          have F129 := (Fc103_1.keep K126 (ninS (by omega : @Ne Nat ad102 (ad103_0 + 1)) (ninS (by omega : @Ne Nat ad102 (ad103_1 + 1)) (ninS (by omega : @Ne Nat ad102 (ad103_2 + 1)) nin0))))
          have F130 := (Fc103_4.keep K126 (ninS (by omega : @Ne Nat ad103_0 (ad103_0 + 1)) (ninS (by omega : @Ne Nat ad103_0 (ad103_1 + 1)) (ninS (by omega : @Ne Nat ad103_0 (ad103_2 + 1)) nin0))))
          have F131 := (Fc103_6.keep K126 (ninS (by omega : @Ne Nat (ad103_0 + 2) (ad103_0 + 1)) (ninS (by omega : @Ne Nat (ad103_0 + 2) (ad103_1 + 1)) (ninS (by omega : @Ne Nat (ad103_0 + 2) (ad103_2 + 1)) nin0))))
          have F132 := (Fc103_2.keep K126 (ninS (by omega : @Ne Nat ad102 (ad103_0 + 1)) (ninS (by omega : @Ne Nat ad102 (ad103_1 + 1)) (ninS (by omega : @Ne Nat ad102 (ad103_2 + 1)) nin0))))
          have F133 := (Fc103_7.keep K126 (ninS (by omega : @Ne Nat ad103_1 (ad103_0 + 1)) (ninS (by omega : @Ne Nat ad103_1 (ad103_1 + 1)) (ninS (by omega : @Ne Nat ad103_1 (ad103_2 + 1)) nin0))))
          have F134 := (Fc103_9.keep K126 (ninS (by omega : @Ne Nat (ad103_1 + 2) (ad103_0 + 1)) (ninS (by omega : @Ne Nat (ad103_1 + 2) (ad103_1 + 1)) (ninS (by omega : @Ne Nat (ad103_1 + 2) (ad103_2 + 1)) nin0))))
          have F135 := (Fc103_3.keep K126 (ninS (by omega : @Ne Nat ad102 (ad103_0 + 1)) (ninS (by omega : @Ne Nat ad102 (ad103_1 + 1)) (ninS (by omega : @Ne Nat ad102 (ad103_2 + 1)) nin0))))
          have F136 := (Fc103_10.keep K126 (ninS (by omega : @Ne Nat ad103_2 (ad103_0 + 1)) (ninS (by omega : @Ne Nat ad103_2 (ad103_1 + 1)) (ninS (by omega : @Ne Nat ad103_2 (ad103_2 + 1)) nin0))))
          have F137 := (Fc103_12.keep K126 (ninS (by omega : @Ne Nat (ad103_2 + 2) (ad103_0 + 1)) (ninS (by omega : @Ne Nat (ad103_2 + 2) (ad103_1 + 1)) (ninS (by omega : @Ne Nat (ad103_2 + 2) (ad103_2 + 1)) nin0))))
          refine OwnW.callV (a0 := a0) (pc' := 106) (W := 0) (k' := 10) (n' := 21) (argsL := [(.int (1 : Int32)), (.int (1 : Int32)), (.long lo2), (.long up2), .null]) (rest := []) at_103 (hw _ (List.mem_of_getElem? (i := 26) rfl)) (hw _ (List.mem_of_getElem? (i := 27) rfl)) (hw _ (List.mem_of_getElem? (i := 29) rfl)) (hw _ (List.mem_of_getElem? (i := 28) rfl)) (hw _ (List.mem_of_getElem? (i := 2) rfl)) (hw _ (List.mem_of_getElem? (i := 30) rfl)) (by decide) F128 (rm4_11 l Z a0 hw ad102 lo2 up2 ad103_0 (ad103_0 + 1) (ad103_0 + 2) kc103_0 kc103_1 (0 : Int64) (0 : Int64) ad103_1 (ad103_1 + 1) (ad103_1 + 2) kc103_2 kc103_3 (9223372036854775807 : Int64) (9223372036854775807 : Int64) ad103_2 (ad103_2 + 1) (ad103_2 + 2) kc103_4 kc103_5 h126 n0 sz127 (Nat.le_trans ge_ad103_0 (Nat.le_add_right _ _)) (Nat.le_trans ge_ad103_1 (Nat.le_add_right _ _)) (Nat.le_trans ge_ad103_2 (Nat.le_add_right _ _)) F128 F129 F130 F131 F132 F133 F134 F135 F136 F137 (by omega : @Ne Nat (ad103_0 + 2) ad103_1) (by omega : @Ne Nat (ad103_0 + 2) (ad103_1 + 2)) (by omega : @Ne Nat (ad103_0 + 2) ad103_2) (by omega : @Ne Nat (ad103_0 + 2) (ad103_2 + 2)) (by omega : @Ne Nat (ad103_0 + 2) ad102) (by omega : @Ne Nat (ad103_0 + 2) ad103_0) (by omega : @Ne Nat (ad103_1 + 2) ad103_2) (by omega : @Ne Nat (ad103_1 + 2) (ad103_2 + 2)) (by omega : @Ne Nat (ad103_1 + 2) ad102) (by omega : @Ne Nat (ad103_1 + 2) ad103_0) (by omega : @Ne Nat (ad103_1 + 2) ad103_1) (by omega : @Ne Nat (ad103_2 + 2) ad102) (by omega : @Ne Nat (ad103_2 + 2) ad103_0) (by omega : @Ne Nat (ad103_2 + 2) ad103_1) (by omega : @Ne Nat (ad103_2 + 2) ad103_2)) (by decide) (by decide) rfl rfl (by decide) (by decide) rfl pd_28IIJJLcom2fexample2fparley2fparley2ftreesearch2fSubtreeAssignment3b29V rfl rfl rfl (Nat.le_of_ble_eq_true rfl) rfl ?_
          rintro h138 v138 ⟨rfl, K138, Fc138_0, Fc138_1, Fc138_2⟩
          have sz139 : n0 ≤ h138.size := Nat.le_trans sz127 K138.1
          show GoB0 l Z n0 OwnW.One1 h138 10 21 106 #[.val (.int sel), .val (.long est), .second, .val (.long lo1), .second, .val (.long up1), .second, .val (.long lo2), .second, .val (.long up2), .second, .val (.int (0 : Int32)), .val (.int (0 : Int32)), .val (.int (0 : Int32)), .val (.int (3 : Int32)), .val (.int (1 : Int32)), .val (.int (1 : Int32)), .val (.int sb), .val (.ref ad102)] []
          refine OwnW.aload (pc' := 108) at_106 rfl (rfl) rfl ?_
          refine OwnW.iload (pc' := 110) at_108 rfl rfl ?_
          refine OwnW.iload (pc' := 112) at_110 rfl rfl ?_
          refine OwnW.lloadN (pc' := 113) at_112 rfl rfl ?_
          have F140 := (F128.keep K138)
          have F141 := (F129.keep K138 (ninS (by omega : @Ne Nat ad102 (ad103_0 + 2)) (ninS (by omega : @Ne Nat ad102 (ad103_1 + 2)) (ninS (by omega : @Ne Nat ad102 (ad103_2 + 2)) nin0))))
          have F142 := (F130.keep K138 (ninS (by omega : @Ne Nat ad103_0 (ad103_0 + 2)) (ninS (by omega : @Ne Nat ad103_0 (ad103_1 + 2)) (ninS (by omega : @Ne Nat ad103_0 (ad103_2 + 2)) nin0))))
          have F143 := (Fc126_0.keep K138 (ninS (by omega : @Ne Nat (ad103_0 + 1) (ad103_0 + 2)) (ninS (by omega : @Ne Nat (ad103_0 + 1) (ad103_1 + 2)) (ninS (by omega : @Ne Nat (ad103_0 + 1) (ad103_2 + 2)) nin0))))
          have F144 := (F132.keep K138 (ninS (by omega : @Ne Nat ad102 (ad103_0 + 2)) (ninS (by omega : @Ne Nat ad102 (ad103_1 + 2)) (ninS (by omega : @Ne Nat ad102 (ad103_2 + 2)) nin0))))
          have F145 := (F133.keep K138 (ninS (by omega : @Ne Nat ad103_1 (ad103_0 + 2)) (ninS (by omega : @Ne Nat ad103_1 (ad103_1 + 2)) (ninS (by omega : @Ne Nat ad103_1 (ad103_2 + 2)) nin0))))
          have F146 := (Fc126_1.keep K138 (ninS (by omega : @Ne Nat (ad103_1 + 1) (ad103_0 + 2)) (ninS (by omega : @Ne Nat (ad103_1 + 1) (ad103_1 + 2)) (ninS (by omega : @Ne Nat (ad103_1 + 1) (ad103_2 + 2)) nin0))))
          have F147 := (F135.keep K138 (ninS (by omega : @Ne Nat ad102 (ad103_0 + 2)) (ninS (by omega : @Ne Nat ad102 (ad103_1 + 2)) (ninS (by omega : @Ne Nat ad102 (ad103_2 + 2)) nin0))))
          have F148 := (F136.keep K138 (ninS (by omega : @Ne Nat ad103_2 (ad103_0 + 2)) (ninS (by omega : @Ne Nat ad103_2 (ad103_1 + 2)) (ninS (by omega : @Ne Nat ad103_2 (ad103_2 + 2)) nin0))))
          have F149 := (Fc126_2.keep K138 (ninS (by omega : @Ne Nat (ad103_2 + 1) (ad103_0 + 2)) (ninS (by omega : @Ne Nat (ad103_2 + 1) (ad103_1 + 2)) (ninS (by omega : @Ne Nat (ad103_2 + 1) (ad103_2 + 2)) nin0))))
          refine OwnW.callV (a0 := a0) (pc' := 116) (W := 0) (k' := 10) (n' := 21) (argsL := [(.int (0 : Int32)), (.int (0 : Int32)), (.long est)]) (rest := []) at_113 (hw _ (List.mem_of_getElem? (i := 31) rfl)) (hw _ (List.mem_of_getElem? (i := 32) rfl)) (hw _ (List.mem_of_getElem? (i := 34) rfl)) (hw _ (List.mem_of_getElem? (i := 33) rfl)) (hw _ (List.mem_of_getElem? (i := 2) rfl)) (hw _ (List.mem_of_getElem? (i := 35) rfl)) (by decide) F140 (rm5_00 l Z a0 hw ad102 est ad103_0 (ad103_0 + 1) (ad103_0 + 2) kc103_0 kc103_1 lo1 (0 : Int64) ad103_1 (ad103_1 + 1) (ad103_1 + 2) kc103_2 kc103_3 up1 (9223372036854775807 : Int64) ad103_2 (ad103_2 + 1) (ad103_2 + 2) kc103_4 kc103_5 h138 n0 sz139 (Nat.le_trans ge_ad103_0 (Nat.le_add_right _ _)) (Nat.le_trans ge_ad103_1 (Nat.le_add_right _ _)) (Nat.le_trans ge_ad103_2 (Nat.le_add_right _ _)) F140 F141 F142 F143 F144 F145 F146 F147 F148 F149 (by omega : @Ne Nat (ad103_0 + 1) ad103_1) (by omega : @Ne Nat (ad103_0 + 1) (ad103_1 + 1)) (by omega : @Ne Nat (ad103_0 + 1) ad103_2) (by omega : @Ne Nat (ad103_0 + 1) (ad103_2 + 1)) (by omega : @Ne Nat (ad103_0 + 1) ad102) (by omega : @Ne Nat (ad103_0 + 1) ad103_0) (by omega : @Ne Nat (ad103_1 + 1) ad103_2) (by omega : @Ne Nat (ad103_1 + 1) (ad103_2 + 1)) (by omega : @Ne Nat (ad103_1 + 1) ad102) (by omega : @Ne Nat (ad103_1 + 1) ad103_0) (by omega : @Ne Nat (ad103_1 + 1) ad103_1) (by omega : @Ne Nat (ad103_2 + 1) ad102) (by omega : @Ne Nat (ad103_2 + 1) ad103_0) (by omega : @Ne Nat (ad103_2 + 1) ad103_1) (by omega : @Ne Nat (ad103_2 + 1) ad103_2)) (by decide) (by decide) rfl rfl (by decide) (by decide) rfl pd_28IIJ29V rfl rfl rfl (Nat.le_of_ble_eq_true rfl) rfl ?_
          rintro h150 v150 ⟨rfl, K150, Fc150_0, Fc150_1, Fc150_2⟩
          have sz151 : n0 ≤ h150.size := Nat.le_trans sz139 K150.1
          show GoB0 l Z n0 OwnW.One1 h150 10 21 116 #[.val (.int sel), .val (.long est), .second, .val (.long lo1), .second, .val (.long up1), .second, .val (.long lo2), .second, .val (.long up2), .second, .val (.int (0 : Int32)), .val (.int (0 : Int32)), .val (.int (0 : Int32)), .val (.int (3 : Int32)), .val (.int (1 : Int32)), .val (.int (1 : Int32)), .val (.int sb), .val (.ref ad102)] []
          refine OwnW.aload (pc' := 118) at_116 rfl (rfl) rfl ?_
          refine OwnW.iload (pc' := 120) at_118 rfl rfl ?_
          refine OwnW.iload (pc' := 122) at_120 rfl rfl ?_
          have F152 := (F141.keep K150 (ninS (by omega : @Ne Nat ad102 (ad103_0 + 1)) (ninS (by omega : @Ne Nat ad102 (ad103_1 + 1)) (ninS (by omega : @Ne Nat ad102 (ad103_2 + 1)) nin0))))
          have F153 := (F142.keep K150 (ninS (by omega : @Ne Nat ad103_0 (ad103_0 + 1)) (ninS (by omega : @Ne Nat ad103_0 (ad103_1 + 1)) (ninS (by omega : @Ne Nat ad103_0 (ad103_2 + 1)) nin0))))
          have F154 := (F140.keep K150)
          refine OwnW.callV0 (a0 := a0) (pc' := 125) (W := 0) (k' := 10) (n' := 21) (argsL := [(.int (0 : Int32)), (.int (0 : Int32))]) (rest := []) (St' := [(.long (f6_00 ad102 ad103_0 (ad103_0 + 1) (ad103_0 + 2) kc103_0 kc103_1 est (0 : Int64)))]) at_122 (hw _ (List.mem_of_getElem? (i := 36) rfl)) (hw _ (List.mem_of_getElem? (i := 37) rfl)) (hw _ (List.mem_of_getElem? (i := 39) rfl)) (hw _ (List.mem_of_getElem? (i := 38) rfl)) (hw _ (List.mem_of_getElem? (i := 2) rfl)) (hw _ (List.mem_of_getElem? (i := 40) rfl)) (by decide) F154 (rm6_00 l Z a0 hw ad102 ad103_0 (ad103_0 + 1) (ad103_0 + 2) kc103_0 kc103_1 est (0 : Int64) h150 n0 F152 F153 Fc150_0) (by decide) (by decide) rfl rfl (by decide) (by decide) rfl pd_28II29J rfl rfl rfl (Nat.le_of_ble_eq_true rfl) rfl rfl ?_
          refine OwnW.lloadN (pc' := 126) at_125 rfl rfl ?_
          refine OwnW.lcmp (pc' := 127) at_126 rfl ?_
          refine OwnW.ifcN (pc' := 130) at_127 ((if0 _ _).trans (teq ((lw_eq _ _).mpr rfl)).2) rfl ?_
          refine OwnW.aload (pc' := 132) at_130 rfl (rfl) rfl ?_
          refine OwnW.iload (pc' := 134) at_132 rfl rfl ?_
          refine OwnW.iload (pc' := 136) at_134 rfl rfl ?_
          have F155 := (F144.keep K150 (ninS (by omega : @Ne Nat ad102 (ad103_0 + 1)) (ninS (by omega : @Ne Nat ad102 (ad103_1 + 1)) (ninS (by omega : @Ne Nat ad102 (ad103_2 + 1)) nin0))))
          have F156 := (F145.keep K150 (ninS (by omega : @Ne Nat ad103_1 (ad103_0 + 1)) (ninS (by omega : @Ne Nat ad103_1 (ad103_1 + 1)) (ninS (by omega : @Ne Nat ad103_1 (ad103_2 + 1)) nin0))))
          refine OwnW.callV0 (a0 := a0) (pc' := 139) (W := 0) (k' := 10) (n' := 21) (argsL := [(.int (0 : Int32)), (.int (0 : Int32))]) (rest := []) (St' := [(.long (f7_00 ad102 ad103_1 (ad103_1 + 1) (ad103_1 + 2) kc103_2 kc103_3 (9223372036854775807 : Int64) (9223372036854775807 : Int64)))]) at_136 (hw _ (List.mem_of_getElem? (i := 41) rfl)) (hw _ (List.mem_of_getElem? (i := 42) rfl)) (hw _ (List.mem_of_getElem? (i := 44) rfl)) (hw _ (List.mem_of_getElem? (i := 43) rfl)) (hw _ (List.mem_of_getElem? (i := 2) rfl)) (hw _ (List.mem_of_getElem? (i := 45) rfl)) (by decide) F154 (rm7_00 l Z a0 hw ad102 ad103_1 (ad103_1 + 1) (ad103_1 + 2) kc103_2 kc103_3 (9223372036854775807 : Int64) (9223372036854775807 : Int64) h150 n0 F155 F156 Fc150_1) (by decide) (by decide) rfl rfl (by decide) (by decide) rfl pd_28II29J rfl rfl rfl (Nat.le_of_ble_eq_true rfl) rfl rfl ?_
          refine OwnW.ldc2J (a0 := a0) (pc' := 142) (v := (9223372036854775807 : Int64)) at_139 (hw _ (List.mem_of_getElem? (i := 46) rfl)) rfl ?_
          refine OwnW.lcmp (pc' := 143) at_142 rfl ?_
          refine OwnW.ifcN (pc' := 146) at_143 ((if0 _ _).trans (teq ((lw_eq _ _).mpr rfl)).2) rfl ?_
          refine OwnW.aload (pc' := 148) at_146 rfl (rfl) rfl ?_
          refine OwnW.iload (pc' := 150) at_148 rfl rfl ?_
          refine OwnW.iload (pc' := 152) at_150 rfl rfl ?_
          have F157 := (Fc138_0.keep K150 (ninS (by omega : @Ne Nat (ad103_0 + 2) (ad103_0 + 1)) (ninS (by omega : @Ne Nat (ad103_0 + 2) (ad103_1 + 1)) (ninS (by omega : @Ne Nat (ad103_0 + 2) (ad103_2 + 1)) nin0))))
          refine OwnW.callV0 (a0 := a0) (pc' := 155) (W := 0) (k' := 10) (n' := 21) (argsL := [(.int (1 : Int32)), (.int (1 : Int32))]) (rest := []) (St' := [(.long (f6_11 ad102 ad103_0 (ad103_0 + 1) (ad103_0 + 2) kc103_0 kc103_1 (0 : Int64) lo2))]) at_152 (hw _ (List.mem_of_getElem? (i := 36) rfl)) (hw _ (List.mem_of_getElem? (i := 37) rfl)) (hw _ (List.mem_of_getElem? (i := 39) rfl)) (hw _ (List.mem_of_getElem? (i := 38) rfl)) (hw _ (List.mem_of_getElem? (i := 2) rfl)) (hw _ (List.mem_of_getElem? (i := 40) rfl)) (by decide) F154 (rm6_11 l Z a0 hw ad102 ad103_0 (ad103_0 + 1) (ad103_0 + 2) kc103_0 kc103_1 (0 : Int64) lo2 h150 n0 F152 F153 F157) (by decide) (by decide) rfl rfl (by decide) (by decide) rfl pd_28II29J rfl rfl rfl (Nat.le_of_ble_eq_true rfl) rfl rfl ?_
          refine OwnW.lload (pc' := 157) at_155 rfl rfl ?_
          refine OwnW.lcmp (pc' := 158) at_157 rfl ?_
          refine OwnW.ifcN (pc' := 161) at_158 ((if0 _ _).trans (teq ((lw_eq _ _).mpr rfl)).2) rfl ?_
          refine OwnW.aload (pc' := 163) at_161 rfl (rfl) rfl ?_
          refine OwnW.iload (pc' := 165) at_163 rfl rfl ?_
          refine OwnW.iload (pc' := 167) at_165 rfl rfl ?_
          have F158 := (Fc138_1.keep K150 (ninS (by omega : @Ne Nat (ad103_1 + 2) (ad103_0 + 1)) (ninS (by omega : @Ne Nat (ad103_1 + 2) (ad103_1 + 1)) (ninS (by omega : @Ne Nat (ad103_1 + 2) (ad103_2 + 1)) nin0))))
          refine OwnW.callV0 (a0 := a0) (pc' := 170) (W := 0) (k' := 10) (n' := 21) (argsL := [(.int (1 : Int32)), (.int (1 : Int32))]) (rest := []) (St' := [(.long (f7_11 ad102 ad103_1 (ad103_1 + 1) (ad103_1 + 2) kc103_2 kc103_3 (9223372036854775807 : Int64) up2))]) at_167 (hw _ (List.mem_of_getElem? (i := 41) rfl)) (hw _ (List.mem_of_getElem? (i := 42) rfl)) (hw _ (List.mem_of_getElem? (i := 44) rfl)) (hw _ (List.mem_of_getElem? (i := 43) rfl)) (hw _ (List.mem_of_getElem? (i := 2) rfl)) (hw _ (List.mem_of_getElem? (i := 45) rfl)) (by decide) F154 (rm7_11 l Z a0 hw ad102 ad103_1 (ad103_1 + 1) (ad103_1 + 2) kc103_2 kc103_3 (9223372036854775807 : Int64) up2 h150 n0 F155 F156 F158) (by decide) (by decide) rfl rfl (by decide) (by decide) rfl pd_28II29J rfl rfl rfl (Nat.le_of_ble_eq_true rfl) rfl rfl ?_
          refine OwnW.lload (pc' := 172) at_170 rfl rfl ?_
          refine OwnW.lcmp (pc' := 173) at_172 rfl ?_
          refine OwnW.ifcN (pc' := 176) at_173 ((if0 _ _).trans (teq ((lw_eq _ _).mpr rfl)).2) rfl ?_
          refine OwnW.iconst (pc' := 177) (v := (1 : Int32)) at_176 rfl rfl ?_
          refine OwnW.goto (pc' := 181) at_177 (by decide) (by decide) ?_
          exact OwnW.retN (t := .boolean) at_181 rfl (by simp) rfl (by decide) (by decide) (rfl)
    ·
      show GoB0 l Z n0 OwnW.One1 h0 0 0 10 #[.val (.int sel), .val (.long est), .second, .val (.long lo1), .second, .val (.long up1), .second, .val (.long lo2), .second, .val (.long up2), .second, .val (.int (0 : Int32)), .unset, .unset, .unset, .unset, .unset, .unset, .unset] [(.int (1 : Int32))]
      refine OwnW.istore (pc' := 12) (L' := #[.val (.int sel), .val (.long est), .second, .val (.long lo1), .second, .val (.long up1), .second, .val (.long lo2), .second, .val (.long up2), .second, .val (.int (0 : Int32)), .val (.int (1 : Int32)), .unset, .unset, .unset, .unset, .unset, .unset]) at_10 rfl rfl ?_
      refine OwnW.iconst (pc' := 13) (v := (2 : Int32)) at_12 rfl rfl ?_
      refine OwnW.iload (pc' := 15) at_13 rfl rfl ?_
      refine OwnW.imul (pc' := 16) at_15 rfl ?_
      show GoB0 l Z n0 OwnW.One1 h0 0 0 16 #[.val (.int sel), .val (.long est), .second, .val (.long lo1), .second, .val (.long up1), .second, .val (.long lo2), .second, .val (.long up2), .second, .val (.int (0 : Int32)), .val (.int (1 : Int32)), .unset, .unset, .unset, .unset, .unset, .unset] [(.int (0 : Int32))]
      refine OwnW.iload (pc' := 18) at_16 rfl rfl ?_
      refine OwnW.iadd (pc' := 19) at_18 rfl ?_
      show GoB0 l Z n0 OwnW.One1 h0 0 0 19 #[.val (.int sel), .val (.long est), .second, .val (.long lo1), .second, .val (.long up1), .second, .val (.long lo2), .second, .val (.long up2), .second, .val (.int (0 : Int32)), .val (.int (1 : Int32)), .unset, .unset, .unset, .unset, .unset, .unset] [(.int (1 : Int32))]
      refine OwnW.istore (pc' := 21) (L' := #[.val (.int sel), .val (.long est), .second, .val (.long lo1), .second, .val (.long up1), .second, .val (.long lo2), .second, .val (.long up2), .second, .val (.int (0 : Int32)), .val (.int (1 : Int32)), .val (.int (1 : Int32)), .unset, .unset, .unset, .unset, .unset]) at_19 rfl rfl ?_
      refine OwnW.iload (pc' := 23) at_21 rfl rfl ?_
      refine OwnW.iconst (pc' := 24) (v := (1 : Int32)) at_23 rfl rfl ?_
      refine OwnW.iadd (pc' := 25) at_24 rfl ?_
      show GoB0 l Z n0 OwnW.One1 h0 0 0 25 #[.val (.int sel), .val (.long est), .second, .val (.long lo1), .second, .val (.long up1), .second, .val (.long lo2), .second, .val (.long up2), .second, .val (.int (0 : Int32)), .val (.int (1 : Int32)), .val (.int (1 : Int32)), .unset, .unset, .unset, .unset, .unset] [(.int (2 : Int32))]
      refine OwnW.iloadN (pc' := 26) at_25 rfl rfl ?_
      refine OwnW.iconst (pc' := 27) (v := (2 : Int32)) at_26 rfl rfl ?_
      refine OwnW.iushr (pc' := 28) at_27 rfl ?_
      refine OwnW.iconst (pc' := 29) (v := (3 : Int32)) at_28 rfl rfl ?_
      refine OwnW.iand (pc' := 30) at_29 rfl ?_
      refine OwnW.iconst (pc' := 31) (v := (3 : Int32)) at_30 rfl rfl ?_
      refine OwnW.irem (pc' := 32) at_31 (by decide) rfl ?_
      obtain ⟨r, hr⟩ : ∃ z, z = ((((sel.toUInt32 >>> ((2 : Int32) &&& 31).toUInt32).toInt32) &&& (3 : Int32)) % (3 : Int32)) := ⟨_, rfl⟩
      rw [← hr]
      show GoB0 l Z n0 OwnW.One1 h0 0 0 32 #[.val (.int sel), .val (.long est), .second, .val (.long lo1), .second, .val (.long up1), .second, .val (.long lo2), .second, .val (.long up2), .second, .val (.int (0 : Int32)), .val (.int (1 : Int32)), .val (.int (1 : Int32)), .unset, .unset, .unset, .unset, .unset] [(.int r), (.int (2 : Int32))]
      rcases (own_r hr) with rfl | rfl | rfl
      ·
        show GoB0 l Z n0 OwnW.One1 h0 0 0 32 #[.val (.int sel), .val (.long est), .second, .val (.long lo1), .second, .val (.long up1), .second, .val (.long lo2), .second, .val (.long up2), .second, .val (.int (0 : Int32)), .val (.int (1 : Int32)), .val (.int (1 : Int32)), .unset, .unset, .unset, .unset, .unset] [(.int (0 : Int32)), (.int (2 : Int32))]
        refine OwnW.iadd (pc' := 33) at_32 rfl ?_
        show GoB0 l Z n0 OwnW.One1 h0 0 0 33 #[.val (.int sel), .val (.long est), .second, .val (.long lo1), .second, .val (.long up1), .second, .val (.long lo2), .second, .val (.long up2), .second, .val (.int (0 : Int32)), .val (.int (1 : Int32)), .val (.int (1 : Int32)), .unset, .unset, .unset, .unset, .unset] [(.int (2 : Int32))]
        refine OwnW.iconst (pc' := 34) (v := (3 : Int32)) at_33 rfl rfl ?_
        refine OwnW.iand (pc' := 35) at_34 rfl ?_
        show GoB0 l Z n0 OwnW.One1 h0 0 0 35 #[.val (.int sel), .val (.long est), .second, .val (.long lo1), .second, .val (.long up1), .second, .val (.long lo2), .second, .val (.long up2), .second, .val (.int (0 : Int32)), .val (.int (1 : Int32)), .val (.int (1 : Int32)), .unset, .unset, .unset, .unset, .unset] [(.int (2 : Int32))]
        refine OwnW.istore (pc' := 37) (L' := #[.val (.int sel), .val (.long est), .second, .val (.long lo1), .second, .val (.long up1), .second, .val (.long lo2), .second, .val (.long up2), .second, .val (.int (0 : Int32)), .val (.int (1 : Int32)), .val (.int (1 : Int32)), .val (.int (2 : Int32)), .unset, .unset, .unset, .unset]) at_35 rfl rfl ?_
        refine OwnW.iload (pc' := 39) at_37 rfl rfl ?_
        refine OwnW.iconst (pc' := 40) (v := (1 : Int32)) at_39 rfl rfl ?_
        refine OwnW.ishr (pc' := 41) at_40 rfl ?_
        show GoB0 l Z n0 OwnW.One1 h0 0 0 41 #[.val (.int sel), .val (.long est), .second, .val (.long lo1), .second, .val (.long up1), .second, .val (.long lo2), .second, .val (.long up2), .second, .val (.int (0 : Int32)), .val (.int (1 : Int32)), .val (.int (1 : Int32)), .val (.int (2 : Int32)), .unset, .unset, .unset, .unset] [(.int (1 : Int32))]
        refine OwnW.istore (pc' := 43) (L' := #[.val (.int sel), .val (.long est), .second, .val (.long lo1), .second, .val (.long up1), .second, .val (.long lo2), .second, .val (.long up2), .second, .val (.int (0 : Int32)), .val (.int (1 : Int32)), .val (.int (1 : Int32)), .val (.int (2 : Int32)), .val (.int (1 : Int32)), .unset, .unset, .unset]) at_41 rfl rfl ?_
        refine OwnW.iload (pc' := 45) at_43 rfl rfl ?_
        refine OwnW.iconst (pc' := 46) (v := (1 : Int32)) at_45 rfl rfl ?_
        refine OwnW.iand (pc' := 47) at_46 rfl ?_
        show GoB0 l Z n0 OwnW.One1 h0 0 0 47 #[.val (.int sel), .val (.long est), .second, .val (.long lo1), .second, .val (.long up1), .second, .val (.long lo2), .second, .val (.long up2), .second, .val (.int (0 : Int32)), .val (.int (1 : Int32)), .val (.int (1 : Int32)), .val (.int (2 : Int32)), .val (.int (1 : Int32)), .unset, .unset, .unset] [(.int (0 : Int32))]
        refine OwnW.istore (pc' := 49) (L' := #[.val (.int sel), .val (.long est), .second, .val (.long lo1), .second, .val (.long up1), .second, .val (.long lo2), .second, .val (.long up2), .second, .val (.int (0 : Int32)), .val (.int (1 : Int32)), .val (.int (1 : Int32)), .val (.int (2 : Int32)), .val (.int (1 : Int32)), .val (.int (0 : Int32)), .unset, .unset]) at_47 rfl rfl ?_
        refine OwnW.iloadN (pc' := 50) at_49 rfl rfl ?_
        refine OwnW.bipush (pc' := 52) (v := (16 : Int32)) at_50 rfl rfl ?_
        refine OwnW.iand (pc' := 53) at_52 rfl ?_
        suffices J53_61 : ∀ (sb : Int32), sb = (if (sel &&& (16 : Int32)) = (0 : Int32) then (0 : Int32) else (1 : Int32)) → GoB0 l Z n0 OwnW.One1 h0 0 0 61 #[.val (.int sel), .val (.long est), .second, .val (.long lo1), .second, .val (.long up1), .second, .val (.long lo2), .second, .val (.long up2), .second, .val (.int (0 : Int32)), .val (.int (1 : Int32)), .val (.int (1 : Int32)), .val (.int (2 : Int32)), .val (.int (1 : Int32)), .val (.int (0 : Int32)), .unset, .unset] [(.int sb)] by
          by_cases hc53 : (sel &&& (16 : Int32)) = (0 : Int32)
          ·
            refine OwnW.ifcY (pc' := 60) at_53 ((if0 _ _).trans (teq hc53).1) (by decide) (by decide) ?_
            refine OwnW.iconst (pc' := 61) (v := (0 : Int32)) at_60 rfl rfl ?_
            exact J53_61 _ (by first | simp only [if_pos hc53] | rfl)
          ·
            refine OwnW.ifcN (pc' := 56) at_53 ((if0 _ _).trans (feq hc53).1) rfl ?_
            refine OwnW.iconst (pc' := 57) (v := (1 : Int32)) at_56 rfl rfl ?_
            refine OwnW.goto (pc' := 61) at_57 (by decide) (by decide) ?_
            exact J53_61 _ (by first | simp only [if_neg hc53] | rfl)
        intro sb hsb
        refine OwnW.istore (pc' := 63) (L' := #[.val (.int sel), .val (.long est), .second, .val (.long lo1), .second, .val (.long up1), .second, .val (.long lo2), .second, .val (.long up2), .second, .val (.int (0 : Int32)), .val (.int (1 : Int32)), .val (.int (1 : Int32)), .val (.int (2 : Int32)), .val (.int (1 : Int32)), .val (.int (0 : Int32)), .val (.int sb), .unset]) at_61 rfl rfl ?_
        refine OwnW.newO (a0 := a0) (pc' := 66) (k' := 1) (n' := 3) at_63 (hw _ (List.mem_of_getElem? (i := 0) rfl)) (hw _ (List.mem_of_getElem? (i := 1) rfl)) (hw _ (List.mem_of_getElem? (i := 2) rfl)) rfl rfl (by decide) (by decide) rfl ?_
        intro h159 ad159 g159 E159 A159 D159
        have ge_ad159 : n0 ≤ ad159 := Nat.le_trans Z0 (Nat.le_of_eq g159.symm)
        have sz_ad159 : n0 ≤ h159.size := Nat.le_trans Z0 E159.1
        have F159_lower : Fld Z h159 ad159 "com/example/parley/parley/treesearch/ChildBounds" "lower" "[[J" .null := D159 (Or.inr (hw _ (List.mem_of_getElem? (i := 13) rfl))) (ty := (.array (.array .long))) (by decide)
        have F159_upper : Fld Z h159 ad159 "com/example/parley/parley/treesearch/ChildBounds" "upper" "[[J" .null := D159 (Or.inr (hw _ (List.mem_of_getElem? (i := 15) rfl))) (ty := (.array (.array .long))) (by decide)
        have F159_assignments : Fld Z h159 ad159 "com/example/parley/parley/treesearch/ChildBounds" "assignments" "[[Lcom/example/parley/parley/treesearch/SubtreeAssignment;" .null := D159 (Or.inr (hw _ (List.mem_of_getElem? (i := 20) rfl))) (ty := (.array (.array (.object "com/example/parley/parley/treesearch/SubtreeAssignment")))) (by decide)
        refine OwnW.dup (pc' := 67) at_66 rfl rfl ?_
        refine OwnW.iconst (pc' := 68) (v := (2 : Int32)) at_67 rfl rfl ?_
        refine OwnW.iconst (pc' := 69) (v := (2 : Int32)) at_68 rfl rfl ?_
        refine OwnW.callI (a0 := a0) (pc' := 72) (W := 1) (k' := 10) (n' := 21) (argsL := [(.int (2 : Int32)), (.int (2 : Int32))]) (rest := [(.ref ad159)]) at_69 rfl (hw _ (List.mem_of_getElem? (i := 3) rfl)) (hw _ (List.mem_of_getElem? (i := 4) rfl)) (hw _ (List.mem_of_getElem? (i := 2) rfl)) (hw _ (List.mem_of_getElem? (i := 5) rfl)) (by decide) (rm1 l Z a0 hw ad159 h159 n0 sz_ad159 ge_ad159 A159 F159_lower F159_upper F159_assignments) (by decide) (by decide) rfl rfl (by decide) (by decide) rfl pd_28II29V rfl rfl rfl (Nat.le_of_ble_eq_true rfl) rfl ?_
        rintro h160 v160 ⟨ad160_0, ad160_1, ad160_2, kc160_0, kc160_1, kc160_2, kc160_3, kc160_4, kc160_5, rfl, K160, gl160_0, gl160_1, gl160_2, nn160_0_1, nn160_0_2, nn160_1_2, pp160_0, pp160_1, Fc160_0, Fc160_1, Fc160_2, Fc160_3, Fc160_4, Fc160_5, Fc160_6, Fc160_7, Fc160_8, Fc160_9, Fc160_10, Fc160_11, Fc160_12, Fc160_13⟩
        have lt_ad159_ad160_0 : @LT.lt Nat _ ad159 ad160_0 := Nat.lt_of_lt_of_le (A159).lt gl160_0
        have ge_ad160_0 : n0 ≤ ad160_0 := Nat.le_trans sz_ad159 gl160_0
        have lt_ad159_ad160_1 : @LT.lt Nat _ ad159 ad160_1 := Nat.lt_of_lt_of_le (A159).lt gl160_1
        have ge_ad160_1 : n0 ≤ ad160_1 := Nat.le_trans sz_ad159 gl160_1
        have lt_ad159_ad160_2 : @LT.lt Nat _ ad159 ad160_2 := Nat.lt_of_lt_of_le (A159).lt gl160_2
        have ge_ad160_2 : n0 ≤ ad160_2 := Nat.le_trans sz_ad159 gl160_2
        have sz161 : n0 ≤ h160.size := Nat.le_trans sz_ad159 K160.1
        show GoB0 l Z n0 OwnW.One1 h160 10 21 72 #[.val (.int sel), .val (.long est), .second, .val (.long lo1), .second, .val (.long up1), .second, .val (.long lo2), .second, .val (.long up2), .second, .val (.int (0 : Int32)), .val (.int (1 : Int32)), .val (.int (1 : Int32)), .val (.int (2 : Int32)), .val (.int (1 : Int32)), .val (.int (0 : Int32)), .val (.int sb), .unset] [(.ref ad159)]
        refine OwnW.astore (pc' := 74) (L' := #[.val (.int sel), .val (.long est), .second, .val (.long lo1), .second, .val (.long up1), .second, .val (.long lo2), .second, .val (.long up2), .second, .val (.int (0 : Int32)), .val (.int (1 : Int32)), .val (.int (1 : Int32)), .val (.int (2 : Int32)), .val (.int (1 : Int32)), .val (.int (0 : Int32)), .val (.int sb), .val (.ref ad159)]) at_72 (rfl) rfl rfl ?_
        refine OwnW.iload (pc' := 76) at_74 rfl rfl ?_
        by_cases hc76 : sb = (0 : Int32)
        ·
          refine OwnW.ifcY (pc' := 92) at_76 ((if0 _ _).trans (teq hc76).1) (by decide) (by decide) ?_
          refine OwnW.aload (pc' := 94) at_92 rfl (rfl) rfl ?_
          refine OwnW.iload (pc' := 96) at_94 rfl rfl ?_
          refine OwnW.iload (pc' := 98) at_96 rfl rfl ?_
          refine OwnW.lload (pc' := 100) at_98 rfl rfl ?_
          refine OwnW.lload (pc' := 102) at_100 rfl rfl ?_
          refine OwnW.aconstNull (pc' := 103) at_102 rfl ?_
          refine OwnW.callV (a0 := a0) (pc' := 106) (W := 0) (k' := 10) (n' := 21) (argsL := [(.int (1 : Int32)), (.int (0 : Int32)), (.long lo2), (.long up2), .null]) (rest := []) at_103 (hw _ (List.mem_of_getElem? (i := 26) rfl)) (hw _ (List.mem_of_getElem? (i := 27) rfl)) (hw _ (List.mem_of_getElem? (i := 29) rfl)) (hw _ (List.mem_of_getElem? (i := 28) rfl)) (hw _ (List.mem_of_getElem? (i := 2) rfl)) (hw _ (List.mem_of_getElem? (i := 30) rfl)) (by decide) Fc160_0 (rm4_10 l Z a0 hw ad159 lo2 up2 ad160_0 (ad160_0 + 1) (ad160_0 + 2) kc160_0 kc160_1 (0 : Int64) (0 : Int64) ad160_1 (ad160_1 + 1) (ad160_1 + 2) kc160_2 kc160_3 (9223372036854775807 : Int64) (9223372036854775807 : Int64) ad160_2 (ad160_2 + 1) (ad160_2 + 2) kc160_4 kc160_5 h160 n0 sz161 (Nat.le_trans ge_ad160_0 (Nat.le_add_right _ _)) (Nat.le_trans ge_ad160_1 (Nat.le_add_right _ _)) (Nat.le_trans ge_ad160_2 (Nat.le_add_right _ _)) Fc160_0 Fc160_1 Fc160_4 Fc160_6 Fc160_2 Fc160_7 Fc160_9 Fc160_3 Fc160_10 Fc160_12 (by omega : @Ne Nat (ad160_0 + 2) ad160_1) (by omega : @Ne Nat (ad160_0 + 2) (ad160_1 + 2)) (by omega : @Ne Nat (ad160_0 + 2) ad160_2) (by omega : @Ne Nat (ad160_0 + 2) (ad160_2 + 2)) (by omega : @Ne Nat (ad160_0 + 2) ad159) (by omega : @Ne Nat (ad160_0 + 2) ad160_0) (by omega : @Ne Nat (ad160_1 + 2) ad160_2) (by omega : @Ne Nat (ad160_1 + 2) (ad160_2 + 2)) (by omega : @Ne Nat (ad160_1 + 2) ad159) (by omega : @Ne Nat (ad160_1 + 2) ad160_0) (by omega : @Ne Nat (ad160_1 + 2) ad160_1) (by omega : @Ne Nat (ad160_2 + 2) ad159) (by omega : @Ne Nat (ad160_2 + 2) ad160_0) (by omega : @Ne Nat (ad160_2 + 2) ad160_1) (by omega : @Ne Nat (ad160_2 + 2) ad160_2)) (by decide) (by decide) rfl rfl (by decide) (by decide) rfl pd_28IIJJLcom2fexample2fparley2fparley2ftreesearch2fSubtreeAssignment3b29V rfl rfl rfl (Nat.le_of_ble_eq_true rfl) rfl ?_
          rintro h162 v162 ⟨rfl, K162, Fc162_0, Fc162_1, Fc162_2⟩
          have sz163 : n0 ≤ h162.size := Nat.le_trans sz161 K162.1
          show GoB0 l Z n0 OwnW.One1 h162 10 21 106 #[.val (.int sel), .val (.long est), .second, .val (.long lo1), .second, .val (.long up1), .second, .val (.long lo2), .second, .val (.long up2), .second, .val (.int (0 : Int32)), .val (.int (1 : Int32)), .val (.int (1 : Int32)), .val (.int (2 : Int32)), .val (.int (1 : Int32)), .val (.int (0 : Int32)), .val (.int sb), .val (.ref ad159)] []
          refine OwnW.aload (pc' := 108) at_106 rfl (rfl) rfl ?_
          refine OwnW.iload (pc' := 110) at_108 rfl rfl ?_
          refine OwnW.iload (pc' := 112) at_110 rfl rfl ?_
          refine OwnW.lloadN (pc' := 113) at_112 rfl rfl ?_
          have F164 := (Fc160_0.keep K162)
          have F165 := (Fc160_1.keep K162 (ninS (by omega : @Ne Nat ad159 (ad160_0 + 2)) (ninS (by omega : @Ne Nat ad159 (ad160_1 + 2)) (ninS (by omega : @Ne Nat ad159 (ad160_2 + 2)) nin0))))
          have F166 := (Fc160_4.keep K162 (ninS (by omega : @Ne Nat ad160_0 (ad160_0 + 2)) (ninS (by omega : @Ne Nat ad160_0 (ad160_1 + 2)) (ninS (by omega : @Ne Nat ad160_0 (ad160_2 + 2)) nin0))))
          have F167 := (Fc160_5.keep K162 (ninS (by omega : @Ne Nat (ad160_0 + 1) (ad160_0 + 2)) (ninS (by omega : @Ne Nat (ad160_0 + 1) (ad160_1 + 2)) (ninS (by omega : @Ne Nat (ad160_0 + 1) (ad160_2 + 2)) nin0))))
          have F168 := (Fc160_2.keep K162 (ninS (by omega : @Ne Nat ad159 (ad160_0 + 2)) (ninS (by omega : @Ne Nat ad159 (ad160_1 + 2)) (ninS (by omega : @Ne Nat ad159 (ad160_2 + 2)) nin0))))
          have F169 := (Fc160_7.keep K162 (ninS (by omega : @Ne Nat ad160_1 (ad160_0 + 2)) (ninS (by omega : @Ne Nat ad160_1 (ad160_1 + 2)) (ninS (by omega : @Ne Nat ad160_1 (ad160_2 + 2)) nin0))))
          have F170 := (Fc160_8.keep K162 (ninS (by omega : @Ne Nat (ad160_1 + 1) (ad160_0 + 2)) (ninS (by omega : @Ne Nat (ad160_1 + 1) (ad160_1 + 2)) (ninS (by omega : @Ne Nat (ad160_1 + 1) (ad160_2 + 2)) nin0))))
          have F171 := (Fc160_3.keep K162 (ninS (by omega : @Ne Nat ad159 (ad160_0 + 2)) (ninS (by omega : @Ne Nat ad159 (ad160_1 + 2)) (ninS (by omega : @Ne Nat ad159 (ad160_2 + 2)) nin0))))
          have F172 := (Fc160_10.keep K162 (ninS (by omega : @Ne Nat ad160_2 (ad160_0 + 2)) (ninS (by omega : @Ne Nat ad160_2 (ad160_1 + 2)) (ninS (by omega : @Ne Nat ad160_2 (ad160_2 + 2)) nin0))))
          have F173 := (Fc160_11.keep K162 (ninS (by omega : @Ne Nat (ad160_2 + 1) (ad160_0 + 2)) (ninS (by omega : @Ne Nat (ad160_2 + 1) (ad160_1 + 2)) (ninS (by omega : @Ne Nat (ad160_2 + 1) (ad160_2 + 2)) nin0))))
          refine OwnW.callV (a0 := a0) (pc' := 116) (W := 0) (k' := 10) (n' := 21) (argsL := [(.int (0 : Int32)), (.int (1 : Int32)), (.long est)]) (rest := []) at_113 (hw _ (List.mem_of_getElem? (i := 31) rfl)) (hw _ (List.mem_of_getElem? (i := 32) rfl)) (hw _ (List.mem_of_getElem? (i := 34) rfl)) (hw _ (List.mem_of_getElem? (i := 33) rfl)) (hw _ (List.mem_of_getElem? (i := 2) rfl)) (hw _ (List.mem_of_getElem? (i := 35) rfl)) (by decide) F164 (rm5_01 l Z a0 hw ad159 est ad160_0 (ad160_0 + 1) (ad160_0 + 2) kc160_0 kc160_1 (0 : Int64) (0 : Int64) ad160_1 (ad160_1 + 1) (ad160_1 + 2) kc160_2 kc160_3 (9223372036854775807 : Int64) (9223372036854775807 : Int64) ad160_2 (ad160_2 + 1) (ad160_2 + 2) kc160_4 kc160_5 h162 n0 sz163 (Nat.le_trans ge_ad160_0 (Nat.le_add_right _ _)) (Nat.le_trans ge_ad160_1 (Nat.le_add_right _ _)) (Nat.le_trans ge_ad160_2 (Nat.le_add_right _ _)) F164 F165 F166 F167 F168 F169 F170 F171 F172 F173 (by omega : @Ne Nat (ad160_0 + 1) ad160_1) (by omega : @Ne Nat (ad160_0 + 1) (ad160_1 + 1)) (by omega : @Ne Nat (ad160_0 + 1) ad160_2) (by omega : @Ne Nat (ad160_0 + 1) (ad160_2 + 1)) (by omega : @Ne Nat (ad160_0 + 1) ad159) (by omega : @Ne Nat (ad160_0 + 1) ad160_0) (by omega : @Ne Nat (ad160_1 + 1) ad160_2) (by omega : @Ne Nat (ad160_1 + 1) (ad160_2 + 1)) (by omega : @Ne Nat (ad160_1 + 1) ad159) (by omega : @Ne Nat (ad160_1 + 1) ad160_0) (by omega : @Ne Nat (ad160_1 + 1) ad160_1) (by omega : @Ne Nat (ad160_2 + 1) ad159) (by omega : @Ne Nat (ad160_2 + 1) ad160_0) (by omega : @Ne Nat (ad160_2 + 1) ad160_1) (by omega : @Ne Nat (ad160_2 + 1) ad160_2)) (by decide) (by decide) rfl rfl (by decide) (by decide) rfl pd_28IIJ29V rfl rfl rfl (Nat.le_of_ble_eq_true rfl) rfl ?_
          rintro h174 v174 ⟨rfl, K174, Fc174_0, Fc174_1, Fc174_2⟩
          have sz175 : n0 ≤ h174.size := Nat.le_trans sz163 K174.1
          show GoB0 l Z n0 OwnW.One1 h174 10 21 116 #[.val (.int sel), .val (.long est), .second, .val (.long lo1), .second, .val (.long up1), .second, .val (.long lo2), .second, .val (.long up2), .second, .val (.int (0 : Int32)), .val (.int (1 : Int32)), .val (.int (1 : Int32)), .val (.int (2 : Int32)), .val (.int (1 : Int32)), .val (.int (0 : Int32)), .val (.int sb), .val (.ref ad159)] []
          refine OwnW.aload (pc' := 118) at_116 rfl (rfl) rfl ?_
          refine OwnW.iload (pc' := 120) at_118 rfl rfl ?_
          refine OwnW.iload (pc' := 122) at_120 rfl rfl ?_
          have F176 := (F165.keep K174 (ninS (by omega : @Ne Nat ad159 (ad160_0 + 1)) (ninS (by omega : @Ne Nat ad159 (ad160_1 + 1)) (ninS (by omega : @Ne Nat ad159 (ad160_2 + 1)) nin0))))
          have F177 := (F166.keep K174 (ninS (by omega : @Ne Nat ad160_0 (ad160_0 + 1)) (ninS (by omega : @Ne Nat ad160_0 (ad160_1 + 1)) (ninS (by omega : @Ne Nat ad160_0 (ad160_2 + 1)) nin0))))
          have F178 := (F164.keep K174)
          refine OwnW.callV0 (a0 := a0) (pc' := 125) (W := 0) (k' := 10) (n' := 21) (argsL := [(.int (0 : Int32)), (.int (1 : Int32))]) (rest := []) (St' := [(.long (f6_01 ad159 ad160_0 (ad160_0 + 1) (ad160_0 + 2) kc160_0 kc160_1 (0 : Int64) est))]) at_122 (hw _ (List.mem_of_getElem? (i := 36) rfl)) (hw _ (List.mem_of_getElem? (i := 37) rfl)) (hw _ (List.mem_of_getElem? (i := 39) rfl)) (hw _ (List.mem_of_getElem? (i := 38) rfl)) (hw _ (List.mem_of_getElem? (i := 2) rfl)) (hw _ (List.mem_of_getElem? (i := 40) rfl)) (by decide) F178 (rm6_01 l Z a0 hw ad159 ad160_0 (ad160_0 + 1) (ad160_0 + 2) kc160_0 kc160_1 (0 : Int64) est h174 n0 F176 F177 Fc174_0) (by decide) (by decide) rfl rfl (by decide) (by decide) rfl pd_28II29J rfl rfl rfl (Nat.le_of_ble_eq_true rfl) rfl rfl ?_
          refine OwnW.lloadN (pc' := 126) at_125 rfl rfl ?_
          refine OwnW.lcmp (pc' := 127) at_126 rfl ?_
          refine OwnW.ifcN (pc' := 130) at_127 ((if0 _ _).trans (teq ((lw_eq _ _).mpr rfl)).2) rfl ?_
          refine OwnW.aload (pc' := 132) at_130 rfl (rfl) rfl ?_
          refine OwnW.iload (pc' := 134) at_132 rfl rfl ?_
          refine OwnW.iload (pc' := 136) at_134 rfl rfl ?_
          have F179 := (F168.keep K174 (ninS (by omega : @Ne Nat ad159 (ad160_0 + 1)) (ninS (by omega : @Ne Nat ad159 (ad160_1 + 1)) (ninS (by omega : @Ne Nat ad159 (ad160_2 + 1)) nin0))))
          have F180 := (F169.keep K174 (ninS (by omega : @Ne Nat ad160_1 (ad160_0 + 1)) (ninS (by omega : @Ne Nat ad160_1 (ad160_1 + 1)) (ninS (by omega : @Ne Nat ad160_1 (ad160_2 + 1)) nin0))))
          refine OwnW.callV0 (a0 := a0) (pc' := 139) (W := 0) (k' := 10) (n' := 21) (argsL := [(.int (0 : Int32)), (.int (1 : Int32))]) (rest := []) (St' := [(.long (f7_01 ad159 ad160_1 (ad160_1 + 1) (ad160_1 + 2) kc160_2 kc160_3 (9223372036854775807 : Int64) (9223372036854775807 : Int64)))]) at_136 (hw _ (List.mem_of_getElem? (i := 41) rfl)) (hw _ (List.mem_of_getElem? (i := 42) rfl)) (hw _ (List.mem_of_getElem? (i := 44) rfl)) (hw _ (List.mem_of_getElem? (i := 43) rfl)) (hw _ (List.mem_of_getElem? (i := 2) rfl)) (hw _ (List.mem_of_getElem? (i := 45) rfl)) (by decide) F178 (rm7_01 l Z a0 hw ad159 ad160_1 (ad160_1 + 1) (ad160_1 + 2) kc160_2 kc160_3 (9223372036854775807 : Int64) (9223372036854775807 : Int64) h174 n0 F179 F180 Fc174_1) (by decide) (by decide) rfl rfl (by decide) (by decide) rfl pd_28II29J rfl rfl rfl (Nat.le_of_ble_eq_true rfl) rfl rfl ?_
          refine OwnW.ldc2J (a0 := a0) (pc' := 142) (v := (9223372036854775807 : Int64)) at_139 (hw _ (List.mem_of_getElem? (i := 46) rfl)) rfl ?_
          refine OwnW.lcmp (pc' := 143) at_142 rfl ?_
          refine OwnW.ifcN (pc' := 146) at_143 ((if0 _ _).trans (teq ((lw_eq _ _).mpr rfl)).2) rfl ?_
          refine OwnW.aload (pc' := 148) at_146 rfl (rfl) rfl ?_
          refine OwnW.iload (pc' := 150) at_148 rfl rfl ?_
          refine OwnW.iload (pc' := 152) at_150 rfl rfl ?_
          have F181 := (Fc162_0.keep K174 (ninS (by omega : @Ne Nat (ad160_0 + 2) (ad160_0 + 1)) (ninS (by omega : @Ne Nat (ad160_0 + 2) (ad160_1 + 1)) (ninS (by omega : @Ne Nat (ad160_0 + 2) (ad160_2 + 1)) nin0))))
          refine OwnW.callV0 (a0 := a0) (pc' := 155) (W := 0) (k' := 10) (n' := 21) (argsL := [(.int (1 : Int32)), (.int (0 : Int32))]) (rest := []) (St' := [(.long (f6_10 ad159 ad160_0 (ad160_0 + 1) (ad160_0 + 2) kc160_0 kc160_1 lo2 (0 : Int64)))]) at_152 (hw _ (List.mem_of_getElem? (i := 36) rfl)) (hw _ (List.mem_of_getElem? (i := 37) rfl)) (hw _ (List.mem_of_getElem? (i := 39) rfl)) (hw _ (List.mem_of_getElem? (i := 38) rfl)) (hw _ (List.mem_of_getElem? (i := 2) rfl)) (hw _ (List.mem_of_getElem? (i := 40) rfl)) (by decide) F178 (rm6_10 l Z a0 hw ad159 ad160_0 (ad160_0 + 1) (ad160_0 + 2) kc160_0 kc160_1 lo2 (0 : Int64) h174 n0 F176 F177 F181) (by decide) (by decide) rfl rfl (by decide) (by decide) rfl pd_28II29J rfl rfl rfl (Nat.le_of_ble_eq_true rfl) rfl rfl ?_
          refine OwnW.lload (pc' := 157) at_155 rfl rfl ?_
          refine OwnW.lcmp (pc' := 158) at_157 rfl ?_
          refine OwnW.ifcN (pc' := 161) at_158 ((if0 _ _).trans (teq ((lw_eq _ _).mpr rfl)).2) rfl ?_
          refine OwnW.aload (pc' := 163) at_161 rfl (rfl) rfl ?_
          refine OwnW.iload (pc' := 165) at_163 rfl rfl ?_
          refine OwnW.iload (pc' := 167) at_165 rfl rfl ?_
          have F182 := (Fc162_1.keep K174 (ninS (by omega : @Ne Nat (ad160_1 + 2) (ad160_0 + 1)) (ninS (by omega : @Ne Nat (ad160_1 + 2) (ad160_1 + 1)) (ninS (by omega : @Ne Nat (ad160_1 + 2) (ad160_2 + 1)) nin0))))
          refine OwnW.callV0 (a0 := a0) (pc' := 170) (W := 0) (k' := 10) (n' := 21) (argsL := [(.int (1 : Int32)), (.int (0 : Int32))]) (rest := []) (St' := [(.long (f7_10 ad159 ad160_1 (ad160_1 + 1) (ad160_1 + 2) kc160_2 kc160_3 up2 (9223372036854775807 : Int64)))]) at_167 (hw _ (List.mem_of_getElem? (i := 41) rfl)) (hw _ (List.mem_of_getElem? (i := 42) rfl)) (hw _ (List.mem_of_getElem? (i := 44) rfl)) (hw _ (List.mem_of_getElem? (i := 43) rfl)) (hw _ (List.mem_of_getElem? (i := 2) rfl)) (hw _ (List.mem_of_getElem? (i := 45) rfl)) (by decide) F178 (rm7_10 l Z a0 hw ad159 ad160_1 (ad160_1 + 1) (ad160_1 + 2) kc160_2 kc160_3 up2 (9223372036854775807 : Int64) h174 n0 F179 F180 F182) (by decide) (by decide) rfl rfl (by decide) (by decide) rfl pd_28II29J rfl rfl rfl (Nat.le_of_ble_eq_true rfl) rfl rfl ?_
          refine OwnW.lload (pc' := 172) at_170 rfl rfl ?_
          refine OwnW.lcmp (pc' := 173) at_172 rfl ?_
          refine OwnW.ifcN (pc' := 176) at_173 ((if0 _ _).trans (teq ((lw_eq _ _).mpr rfl)).2) rfl ?_
          refine OwnW.iconst (pc' := 177) (v := (1 : Int32)) at_176 rfl rfl ?_
          refine OwnW.goto (pc' := 181) at_177 (by decide) (by decide) ?_
          exact OwnW.retN (t := .boolean) at_181 rfl (by simp) rfl (by decide) (by decide) (rfl)
        ·
          refine OwnW.ifcN (pc' := 79) at_76 ((if0 _ _).trans (feq hc76).1) rfl ?_
          refine OwnW.aload (pc' := 81) at_79 rfl (rfl) rfl ?_
          refine OwnW.iload (pc' := 83) at_81 rfl rfl ?_
          refine OwnW.iload (pc' := 85) at_83 rfl rfl ?_
          refine OwnW.lloadN (pc' := 86) at_85 rfl rfl ?_
          refine OwnW.lload (pc' := 88) at_86 rfl rfl ?_
          refine OwnW.aconstNull (pc' := 89) at_88 rfl ?_
          refine OwnW.callV (a0 := a0) (pc' := 92) (W := 0) (k' := 10) (n' := 21) (argsL := [(.int (0 : Int32)), (.int (1 : Int32)), (.long lo1), (.long up1), .null]) (rest := []) at_89 (hw _ (List.mem_of_getElem? (i := 26) rfl)) (hw _ (List.mem_of_getElem? (i := 27) rfl)) (hw _ (List.mem_of_getElem? (i := 29) rfl)) (hw _ (List.mem_of_getElem? (i := 28) rfl)) (hw _ (List.mem_of_getElem? (i := 2) rfl)) (hw _ (List.mem_of_getElem? (i := 30) rfl)) (by decide) Fc160_0 (rm4_01 l Z a0 hw ad159 lo1 up1 ad160_0 (ad160_0 + 1) (ad160_0 + 2) kc160_0 kc160_1 (0 : Int64) (0 : Int64) ad160_1 (ad160_1 + 1) (ad160_1 + 2) kc160_2 kc160_3 (9223372036854775807 : Int64) (9223372036854775807 : Int64) ad160_2 (ad160_2 + 1) (ad160_2 + 2) kc160_4 kc160_5 h160 n0 sz161 (Nat.le_trans ge_ad160_0 (Nat.le_add_right _ _)) (Nat.le_trans ge_ad160_1 (Nat.le_add_right _ _)) (Nat.le_trans ge_ad160_2 (Nat.le_add_right _ _)) Fc160_0 Fc160_1 Fc160_4 Fc160_5 Fc160_2 Fc160_7 Fc160_8 Fc160_3 Fc160_10 Fc160_11 (by omega : @Ne Nat (ad160_0 + 1) ad160_1) (by omega : @Ne Nat (ad160_0 + 1) (ad160_1 + 1)) (by omega : @Ne Nat (ad160_0 + 1) ad160_2) (by omega : @Ne Nat (ad160_0 + 1) (ad160_2 + 1)) (by omega : @Ne Nat (ad160_0 + 1) ad159) (by omega : @Ne Nat (ad160_0 + 1) ad160_0) (by omega : @Ne Nat (ad160_1 + 1) ad160_2) (by omega : @Ne Nat (ad160_1 + 1) (ad160_2 + 1)) (by omega : @Ne Nat (ad160_1 + 1) ad159) (by omega : @Ne Nat (ad160_1 + 1) ad160_0) (by omega : @Ne Nat (ad160_1 + 1) ad160_1) (by omega : @Ne Nat (ad160_2 + 1) ad159) (by omega : @Ne Nat (ad160_2 + 1) ad160_0) (by omega : @Ne Nat (ad160_2 + 1) ad160_1) (by omega : @Ne Nat (ad160_2 + 1) ad160_2)) (by decide) (by decide) rfl rfl (by decide) (by decide) rfl pd_28IIJJLcom2fexample2fparley2fparley2ftreesearch2fSubtreeAssignment3b29V rfl rfl rfl (Nat.le_of_ble_eq_true rfl) rfl ?_
          rintro h183 v183 ⟨rfl, K183, Fc183_0, Fc183_1, Fc183_2⟩
          have sz184 : n0 ≤ h183.size := Nat.le_trans sz161 K183.1
          show GoB0 l Z n0 OwnW.One1 h183 10 21 92 #[.val (.int sel), .val (.long est), .second, .val (.long lo1), .second, .val (.long up1), .second, .val (.long lo2), .second, .val (.long up2), .second, .val (.int (0 : Int32)), .val (.int (1 : Int32)), .val (.int (1 : Int32)), .val (.int (2 : Int32)), .val (.int (1 : Int32)), .val (.int (0 : Int32)), .val (.int sb), .val (.ref ad159)] []
          refine OwnW.aload (pc' := 94) at_92 rfl (rfl) rfl ?_
          refine OwnW.iload (pc' := 96) at_94 rfl rfl ?_
          refine OwnW.iload (pc' := 98) at_96 rfl rfl ?_
          refine OwnW.lload (pc' := 100) at_98 rfl rfl ?_
          refine OwnW.lload (pc' := 102) at_100 rfl rfl ?_
          refine OwnW.aconstNull (pc' := 103) at_102 rfl ?_
          have F185 := (Fc160_0.keep K183)
          have F186 := (Fc160_1.keep K183 (ninS (by omega : @Ne Nat ad159 (ad160_0 + 1)) (ninS (by omega : @Ne Nat ad159 (ad160_1 + 1)) (ninS (by omega : @Ne Nat ad159 (ad160_2 + 1)) nin0))))
          have F187 := (Fc160_4.keep K183 (ninS (by omega : @Ne Nat ad160_0 (ad160_0 + 1)) (ninS (by omega : @Ne Nat ad160_0 (ad160_1 + 1)) (ninS (by omega : @Ne Nat ad160_0 (ad160_2 + 1)) nin0))))
          have F188 := (Fc160_6.keep K183 (ninS (by omega : @Ne Nat (ad160_0 + 2) (ad160_0 + 1)) (ninS (by omega : @Ne Nat (ad160_0 + 2) (ad160_1 + 1)) (ninS (by omega : @Ne Nat (ad160_0 + 2) (ad160_2 + 1)) nin0))))
          have F189 := (Fc160_2.keep K183 (ninS (by omega : @Ne Nat ad159 (ad160_0 + 1)) (ninS (by omega : @Ne Nat ad159 (ad160_1 + 1)) (ninS (by omega : @Ne Nat ad159 (ad160_2 + 1)) nin0))))
          have F190 := (Fc160_7.keep K183 (ninS (by omega : @Ne Nat ad160_1 (ad160_0 + 1)) (ninS (by omega : @Ne Nat ad160_1 (ad160_1 + 1)) (ninS (by omega : @Ne Nat ad160_1 (ad160_2 + 1)) nin0))))
          have F191 := (Fc160_9.keep K183 (ninS (by omega : @Ne Nat (ad160_1 + 2) (ad160_0 + 1)) (ninS (by omega : @Ne Nat (ad160_1 + 2) (ad160_1 + 1)) (ninS (by omega : @Ne Nat (ad160_1 + 2) (ad160_2 + 1)) nin0))))
          have F192 := (Fc160_3.keep K183 (ninS (by omega : @Ne Nat ad159 (ad160_0 + 1)) (ninS (by omega : @Ne Nat ad159 (ad160_1 + 1)) (ninS (by omega : @Ne Nat ad159 (ad160_2 + 1)) nin0))))
          have F193 := (Fc160_10.keep K183 (ninS (by omega : @Ne Nat ad160_2 (ad160_0 + 1)) (ninS (by omega : @Ne Nat ad160_2 (ad160_1 + 1)) (ninS (by omega : @Ne Nat ad160_2 (ad160_2 + 1)) nin0))))
          have F194 := (Fc160_12.keep K183 (ninS (by omega : @Ne Nat (ad160_2 + 2) (ad160_0 + 1)) (ninS (by omega : @Ne Nat (ad160_2 + 2) (ad160_1 + 1)) (ninS (by omega : @Ne Nat (ad160_2 + 2) (ad160_2 + 1)) nin0))))
          refine OwnW.callV (a0 := a0) (pc' := 106) (W := 0) (k' := 10) (n' := 21) (argsL := [(.int (1 : Int32)), (.int (0 : Int32)), (.long lo2), (.long up2), .null]) (rest := []) at_103 (hw _ (List.mem_of_getElem? (i := 26) rfl)) (hw _ (List.mem_of_getElem? (i := 27) rfl)) (hw _ (List.mem_of_getElem? (i := 29) rfl)) (hw _ (List.mem_of_getElem? (i := 28) rfl)) (hw _ (List.mem_of_getElem? (i := 2) rfl)) (hw _ (List.mem_of_getElem? (i := 30) rfl)) (by decide) F185 (rm4_10 l Z a0 hw ad159 lo2 up2 ad160_0 (ad160_0 + 1) (ad160_0 + 2) kc160_0 kc160_1 (0 : Int64) (0 : Int64) ad160_1 (ad160_1 + 1) (ad160_1 + 2) kc160_2 kc160_3 (9223372036854775807 : Int64) (9223372036854775807 : Int64) ad160_2 (ad160_2 + 1) (ad160_2 + 2) kc160_4 kc160_5 h183 n0 sz184 (Nat.le_trans ge_ad160_0 (Nat.le_add_right _ _)) (Nat.le_trans ge_ad160_1 (Nat.le_add_right _ _)) (Nat.le_trans ge_ad160_2 (Nat.le_add_right _ _)) F185 F186 F187 F188 F189 F190 F191 F192 F193 F194 (by omega : @Ne Nat (ad160_0 + 2) ad160_1) (by omega : @Ne Nat (ad160_0 + 2) (ad160_1 + 2)) (by omega : @Ne Nat (ad160_0 + 2) ad160_2) (by omega : @Ne Nat (ad160_0 + 2) (ad160_2 + 2)) (by omega : @Ne Nat (ad160_0 + 2) ad159) (by omega : @Ne Nat (ad160_0 + 2) ad160_0) (by omega : @Ne Nat (ad160_1 + 2) ad160_2) (by omega : @Ne Nat (ad160_1 + 2) (ad160_2 + 2)) (by omega : @Ne Nat (ad160_1 + 2) ad159) (by omega : @Ne Nat (ad160_1 + 2) ad160_0) (by omega : @Ne Nat (ad160_1 + 2) ad160_1) (by omega : @Ne Nat (ad160_2 + 2) ad159) (by omega : @Ne Nat (ad160_2 + 2) ad160_0) (by omega : @Ne Nat (ad160_2 + 2) ad160_1) (by omega : @Ne Nat (ad160_2 + 2) ad160_2)) (by decide) (by decide) rfl rfl (by decide) (by decide) rfl pd_28IIJJLcom2fexample2fparley2fparley2ftreesearch2fSubtreeAssignment3b29V rfl rfl rfl (Nat.le_of_ble_eq_true rfl) rfl ?_
          rintro h195 v195 ⟨rfl, K195, Fc195_0, Fc195_1, Fc195_2⟩
          have sz196 : n0 ≤ h195.size := Nat.le_trans sz184 K195.1
          show GoB0 l Z n0 OwnW.One1 h195 10 21 106 #[.val (.int sel), .val (.long est), .second, .val (.long lo1), .second, .val (.long up1), .second, .val (.long lo2), .second, .val (.long up2), .second, .val (.int (0 : Int32)), .val (.int (1 : Int32)), .val (.int (1 : Int32)), .val (.int (2 : Int32)), .val (.int (1 : Int32)), .val (.int (0 : Int32)), .val (.int sb), .val (.ref ad159)] []
          refine OwnW.aload (pc' := 108) at_106 rfl (rfl) rfl ?_
          refine OwnW.iload (pc' := 110) at_108 rfl rfl ?_
          refine OwnW.iload (pc' := 112) at_110 rfl rfl ?_
          refine OwnW.lloadN (pc' := 113) at_112 rfl rfl ?_
          have F197 := (F185.keep K195)
          have F198 := (F186.keep K195 (ninS (by omega : @Ne Nat ad159 (ad160_0 + 2)) (ninS (by omega : @Ne Nat ad159 (ad160_1 + 2)) (ninS (by omega : @Ne Nat ad159 (ad160_2 + 2)) nin0))))
          have F199 := (F187.keep K195 (ninS (by omega : @Ne Nat ad160_0 (ad160_0 + 2)) (ninS (by omega : @Ne Nat ad160_0 (ad160_1 + 2)) (ninS (by omega : @Ne Nat ad160_0 (ad160_2 + 2)) nin0))))
          have F200 := (Fc183_0.keep K195 (ninS (by omega : @Ne Nat (ad160_0 + 1) (ad160_0 + 2)) (ninS (by omega : @Ne Nat (ad160_0 + 1) (ad160_1 + 2)) (ninS (by omega : @Ne Nat (ad160_0 + 1) (ad160_2 + 2)) nin0))))
          have F201 := (F189.keep K195 (ninS (by omega : @Ne Nat ad159 (ad160_0 + 2)) (ninS (by omega : @Ne Nat ad159 (ad160_1 + 2)) (ninS (by omega : @Ne Nat ad159 (ad160_2 + 2)) nin0))))
          have F202 := (F190.keep K195 (ninS (by omega : @Ne Nat ad160_1 (ad160_0 + 2)) (ninS (by omega : @Ne Nat ad160_1 (ad160_1 + 2)) (ninS (by omega : @Ne Nat ad160_1 (ad160_2 + 2)) nin0))))
          have F203 := (Fc183_1.keep K195 (ninS (by omega : @Ne Nat (ad160_1 + 1) (ad160_0 + 2)) (ninS (by omega : @Ne Nat (ad160_1 + 1) (ad160_1 + 2)) (ninS (by omega : @Ne Nat (ad160_1 + 1) (ad160_2 + 2)) nin0))))
          have F204 := (F192.keep K195 (ninS (by omega : @Ne Nat ad159 (ad160_0 + 2)) (ninS (by omega : @Ne Nat ad159 (ad160_1 + 2)) (ninS (by omega : @Ne Nat ad159 (ad160_2 + 2)) nin0))))
          have F205 := (F193.keep K195 (ninS (by omega : @Ne Nat ad160_2 (ad160_0 + 2)) (ninS (by omega : @Ne Nat ad160_2 (ad160_1 + 2)) (ninS (by omega : @Ne Nat ad160_2 (ad160_2 + 2)) nin0))))
          have F206 := (Fc183_2.keep K195 (ninS (by omega : @Ne Nat (ad160_2 + 1) (ad160_0 + 2)) (ninS (by omega : @Ne Nat (ad160_2 + 1) (ad160_1 + 2)) (ninS (by omega : @Ne Nat (ad160_2 + 1) (ad160_2 + 2)) nin0))))
          refine OwnW.callV (a0 := a0) (pc' := 116) (W := 0) (k' := 10) (n' := 21) (argsL := [(.int (0 : Int32)), (.int (1 : Int32)), (.long est)]) (rest := []) at_113 (hw _ (List.mem_of_getElem? (i := 31) rfl)) (hw _ (List.mem_of_getElem? (i := 32) rfl)) (hw _ (List.mem_of_getElem? (i := 34) rfl)) (hw _ (List.mem_of_getElem? (i := 33) rfl)) (hw _ (List.mem_of_getElem? (i := 2) rfl)) (hw _ (List.mem_of_getElem? (i := 35) rfl)) (by decide) F197 (rm5_01 l Z a0 hw ad159 est ad160_0 (ad160_0 + 1) (ad160_0 + 2) kc160_0 kc160_1 (0 : Int64) lo1 ad160_1 (ad160_1 + 1) (ad160_1 + 2) kc160_2 kc160_3 (9223372036854775807 : Int64) up1 ad160_2 (ad160_2 + 1) (ad160_2 + 2) kc160_4 kc160_5 h195 n0 sz196 (Nat.le_trans ge_ad160_0 (Nat.le_add_right _ _)) (Nat.le_trans ge_ad160_1 (Nat.le_add_right _ _)) (Nat.le_trans ge_ad160_2 (Nat.le_add_right _ _)) F197 F198 F199 F200 F201 F202 F203 F204 F205 F206 (by omega : @Ne Nat (ad160_0 + 1) ad160_1) (by omega : @Ne Nat (ad160_0 + 1) (ad160_1 + 1)) (by omega : @Ne Nat (ad160_0 + 1) ad160_2) (by omega : @Ne Nat (ad160_0 + 1) (ad160_2 + 1)) (by omega : @Ne Nat (ad160_0 + 1) ad159) (by omega : @Ne Nat (ad160_0 + 1) ad160_0) (by omega : @Ne Nat (ad160_1 + 1) ad160_2) (by omega : @Ne Nat (ad160_1 + 1) (ad160_2 + 1)) (by omega : @Ne Nat (ad160_1 + 1) ad159) (by omega : @Ne Nat (ad160_1 + 1) ad160_0) (by omega : @Ne Nat (ad160_1 + 1) ad160_1) (by omega : @Ne Nat (ad160_2 + 1) ad159) (by omega : @Ne Nat (ad160_2 + 1) ad160_0) (by omega : @Ne Nat (ad160_2 + 1) ad160_1) (by omega : @Ne Nat (ad160_2 + 1) ad160_2)) (by decide) (by decide) rfl rfl (by decide) (by decide) rfl pd_28IIJ29V rfl rfl rfl (Nat.le_of_ble_eq_true rfl) rfl ?_
          rintro h207 v207 ⟨rfl, K207, Fc207_0, Fc207_1, Fc207_2⟩
          have sz208 : n0 ≤ h207.size := Nat.le_trans sz196 K207.1
          show GoB0 l Z n0 OwnW.One1 h207 10 21 116 #[.val (.int sel), .val (.long est), .second, .val (.long lo1), .second, .val (.long up1), .second, .val (.long lo2), .second, .val (.long up2), .second, .val (.int (0 : Int32)), .val (.int (1 : Int32)), .val (.int (1 : Int32)), .val (.int (2 : Int32)), .val (.int (1 : Int32)), .val (.int (0 : Int32)), .val (.int sb), .val (.ref ad159)] []
          refine OwnW.aload (pc' := 118) at_116 rfl (rfl) rfl ?_
          refine OwnW.iload (pc' := 120) at_118 rfl rfl ?_
          refine OwnW.iload (pc' := 122) at_120 rfl rfl ?_
          have F209 := (F198.keep K207 (ninS (by omega : @Ne Nat ad159 (ad160_0 + 1)) (ninS (by omega : @Ne Nat ad159 (ad160_1 + 1)) (ninS (by omega : @Ne Nat ad159 (ad160_2 + 1)) nin0))))
          have F210 := (F199.keep K207 (ninS (by omega : @Ne Nat ad160_0 (ad160_0 + 1)) (ninS (by omega : @Ne Nat ad160_0 (ad160_1 + 1)) (ninS (by omega : @Ne Nat ad160_0 (ad160_2 + 1)) nin0))))
          have F211 := (F197.keep K207)
          refine OwnW.callV0 (a0 := a0) (pc' := 125) (W := 0) (k' := 10) (n' := 21) (argsL := [(.int (0 : Int32)), (.int (1 : Int32))]) (rest := []) (St' := [(.long (f6_01 ad159 ad160_0 (ad160_0 + 1) (ad160_0 + 2) kc160_0 kc160_1 (0 : Int64) est))]) at_122 (hw _ (List.mem_of_getElem? (i := 36) rfl)) (hw _ (List.mem_of_getElem? (i := 37) rfl)) (hw _ (List.mem_of_getElem? (i := 39) rfl)) (hw _ (List.mem_of_getElem? (i := 38) rfl)) (hw _ (List.mem_of_getElem? (i := 2) rfl)) (hw _ (List.mem_of_getElem? (i := 40) rfl)) (by decide) F211 (rm6_01 l Z a0 hw ad159 ad160_0 (ad160_0 + 1) (ad160_0 + 2) kc160_0 kc160_1 (0 : Int64) est h207 n0 F209 F210 Fc207_0) (by decide) (by decide) rfl rfl (by decide) (by decide) rfl pd_28II29J rfl rfl rfl (Nat.le_of_ble_eq_true rfl) rfl rfl ?_
          refine OwnW.lloadN (pc' := 126) at_125 rfl rfl ?_
          refine OwnW.lcmp (pc' := 127) at_126 rfl ?_
          refine OwnW.ifcN (pc' := 130) at_127 ((if0 _ _).trans (teq ((lw_eq _ _).mpr rfl)).2) rfl ?_
          refine OwnW.aload (pc' := 132) at_130 rfl (rfl) rfl ?_
          refine OwnW.iload (pc' := 134) at_132 rfl rfl ?_
          refine OwnW.iload (pc' := 136) at_134 rfl rfl ?_
          have F212 := (F201.keep K207 (ninS (by omega : @Ne Nat ad159 (ad160_0 + 1)) (ninS (by omega : @Ne Nat ad159 (ad160_1 + 1)) (ninS (by omega : @Ne Nat ad159 (ad160_2 + 1)) nin0))))
          have F213 := (F202.keep K207 (ninS (by omega : @Ne Nat ad160_1 (ad160_0 + 1)) (ninS (by omega : @Ne Nat ad160_1 (ad160_1 + 1)) (ninS (by omega : @Ne Nat ad160_1 (ad160_2 + 1)) nin0))))
          refine OwnW.callV0 (a0 := a0) (pc' := 139) (W := 0) (k' := 10) (n' := 21) (argsL := [(.int (0 : Int32)), (.int (1 : Int32))]) (rest := []) (St' := [(.long (f7_01 ad159 ad160_1 (ad160_1 + 1) (ad160_1 + 2) kc160_2 kc160_3 (9223372036854775807 : Int64) (9223372036854775807 : Int64)))]) at_136 (hw _ (List.mem_of_getElem? (i := 41) rfl)) (hw _ (List.mem_of_getElem? (i := 42) rfl)) (hw _ (List.mem_of_getElem? (i := 44) rfl)) (hw _ (List.mem_of_getElem? (i := 43) rfl)) (hw _ (List.mem_of_getElem? (i := 2) rfl)) (hw _ (List.mem_of_getElem? (i := 45) rfl)) (by decide) F211 (rm7_01 l Z a0 hw ad159 ad160_1 (ad160_1 + 1) (ad160_1 + 2) kc160_2 kc160_3 (9223372036854775807 : Int64) (9223372036854775807 : Int64) h207 n0 F212 F213 Fc207_1) (by decide) (by decide) rfl rfl (by decide) (by decide) rfl pd_28II29J rfl rfl rfl (Nat.le_of_ble_eq_true rfl) rfl rfl ?_
          refine OwnW.ldc2J (a0 := a0) (pc' := 142) (v := (9223372036854775807 : Int64)) at_139 (hw _ (List.mem_of_getElem? (i := 46) rfl)) rfl ?_
          refine OwnW.lcmp (pc' := 143) at_142 rfl ?_
          refine OwnW.ifcN (pc' := 146) at_143 ((if0 _ _).trans (teq ((lw_eq _ _).mpr rfl)).2) rfl ?_
          refine OwnW.aload (pc' := 148) at_146 rfl (rfl) rfl ?_
          refine OwnW.iload (pc' := 150) at_148 rfl rfl ?_
          refine OwnW.iload (pc' := 152) at_150 rfl rfl ?_
          have F214 := (Fc195_0.keep K207 (ninS (by omega : @Ne Nat (ad160_0 + 2) (ad160_0 + 1)) (ninS (by omega : @Ne Nat (ad160_0 + 2) (ad160_1 + 1)) (ninS (by omega : @Ne Nat (ad160_0 + 2) (ad160_2 + 1)) nin0))))
          refine OwnW.callV0 (a0 := a0) (pc' := 155) (W := 0) (k' := 10) (n' := 21) (argsL := [(.int (1 : Int32)), (.int (0 : Int32))]) (rest := []) (St' := [(.long (f6_10 ad159 ad160_0 (ad160_0 + 1) (ad160_0 + 2) kc160_0 kc160_1 lo2 (0 : Int64)))]) at_152 (hw _ (List.mem_of_getElem? (i := 36) rfl)) (hw _ (List.mem_of_getElem? (i := 37) rfl)) (hw _ (List.mem_of_getElem? (i := 39) rfl)) (hw _ (List.mem_of_getElem? (i := 38) rfl)) (hw _ (List.mem_of_getElem? (i := 2) rfl)) (hw _ (List.mem_of_getElem? (i := 40) rfl)) (by decide) F211 (rm6_10 l Z a0 hw ad159 ad160_0 (ad160_0 + 1) (ad160_0 + 2) kc160_0 kc160_1 lo2 (0 : Int64) h207 n0 F209 F210 F214) (by decide) (by decide) rfl rfl (by decide) (by decide) rfl pd_28II29J rfl rfl rfl (Nat.le_of_ble_eq_true rfl) rfl rfl ?_
          refine OwnW.lload (pc' := 157) at_155 rfl rfl ?_
          refine OwnW.lcmp (pc' := 158) at_157 rfl ?_
          refine OwnW.ifcN (pc' := 161) at_158 ((if0 _ _).trans (teq ((lw_eq _ _).mpr rfl)).2) rfl ?_
          refine OwnW.aload (pc' := 163) at_161 rfl (rfl) rfl ?_
          refine OwnW.iload (pc' := 165) at_163 rfl rfl ?_
          refine OwnW.iload (pc' := 167) at_165 rfl rfl ?_
          have F215 := (Fc195_1.keep K207 (ninS (by omega : @Ne Nat (ad160_1 + 2) (ad160_0 + 1)) (ninS (by omega : @Ne Nat (ad160_1 + 2) (ad160_1 + 1)) (ninS (by omega : @Ne Nat (ad160_1 + 2) (ad160_2 + 1)) nin0))))
          refine OwnW.callV0 (a0 := a0) (pc' := 170) (W := 0) (k' := 10) (n' := 21) (argsL := [(.int (1 : Int32)), (.int (0 : Int32))]) (rest := []) (St' := [(.long (f7_10 ad159 ad160_1 (ad160_1 + 1) (ad160_1 + 2) kc160_2 kc160_3 up2 (9223372036854775807 : Int64)))]) at_167 (hw _ (List.mem_of_getElem? (i := 41) rfl)) (hw _ (List.mem_of_getElem? (i := 42) rfl)) (hw _ (List.mem_of_getElem? (i := 44) rfl)) (hw _ (List.mem_of_getElem? (i := 43) rfl)) (hw _ (List.mem_of_getElem? (i := 2) rfl)) (hw _ (List.mem_of_getElem? (i := 45) rfl)) (by decide) F211 (rm7_10 l Z a0 hw ad159 ad160_1 (ad160_1 + 1) (ad160_1 + 2) kc160_2 kc160_3 up2 (9223372036854775807 : Int64) h207 n0 F212 F213 F215) (by decide) (by decide) rfl rfl (by decide) (by decide) rfl pd_28II29J rfl rfl rfl (Nat.le_of_ble_eq_true rfl) rfl rfl ?_
          refine OwnW.lload (pc' := 172) at_170 rfl rfl ?_
          refine OwnW.lcmp (pc' := 173) at_172 rfl ?_
          refine OwnW.ifcN (pc' := 176) at_173 ((if0 _ _).trans (teq ((lw_eq _ _).mpr rfl)).2) rfl ?_
          refine OwnW.iconst (pc' := 177) (v := (1 : Int32)) at_176 rfl rfl ?_
          refine OwnW.goto (pc' := 181) at_177 (by decide) (by decide) ?_
          exact OwnW.retN (t := .boolean) at_181 rfl (by simp) rfl (by decide) (by decide) (rfl)
      ·
        show GoB0 l Z n0 OwnW.One1 h0 0 0 32 #[.val (.int sel), .val (.long est), .second, .val (.long lo1), .second, .val (.long up1), .second, .val (.long lo2), .second, .val (.long up2), .second, .val (.int (0 : Int32)), .val (.int (1 : Int32)), .val (.int (1 : Int32)), .unset, .unset, .unset, .unset, .unset] [(.int (1 : Int32)), (.int (2 : Int32))]
        refine OwnW.iadd (pc' := 33) at_32 rfl ?_
        show GoB0 l Z n0 OwnW.One1 h0 0 0 33 #[.val (.int sel), .val (.long est), .second, .val (.long lo1), .second, .val (.long up1), .second, .val (.long lo2), .second, .val (.long up2), .second, .val (.int (0 : Int32)), .val (.int (1 : Int32)), .val (.int (1 : Int32)), .unset, .unset, .unset, .unset, .unset] [(.int (3 : Int32))]
        refine OwnW.iconst (pc' := 34) (v := (3 : Int32)) at_33 rfl rfl ?_
        refine OwnW.iand (pc' := 35) at_34 rfl ?_
        show GoB0 l Z n0 OwnW.One1 h0 0 0 35 #[.val (.int sel), .val (.long est), .second, .val (.long lo1), .second, .val (.long up1), .second, .val (.long lo2), .second, .val (.long up2), .second, .val (.int (0 : Int32)), .val (.int (1 : Int32)), .val (.int (1 : Int32)), .unset, .unset, .unset, .unset, .unset] [(.int (3 : Int32))]
        refine OwnW.istore (pc' := 37) (L' := #[.val (.int sel), .val (.long est), .second, .val (.long lo1), .second, .val (.long up1), .second, .val (.long lo2), .second, .val (.long up2), .second, .val (.int (0 : Int32)), .val (.int (1 : Int32)), .val (.int (1 : Int32)), .val (.int (3 : Int32)), .unset, .unset, .unset, .unset]) at_35 rfl rfl ?_
        refine OwnW.iload (pc' := 39) at_37 rfl rfl ?_
        refine OwnW.iconst (pc' := 40) (v := (1 : Int32)) at_39 rfl rfl ?_
        refine OwnW.ishr (pc' := 41) at_40 rfl ?_
        show GoB0 l Z n0 OwnW.One1 h0 0 0 41 #[.val (.int sel), .val (.long est), .second, .val (.long lo1), .second, .val (.long up1), .second, .val (.long lo2), .second, .val (.long up2), .second, .val (.int (0 : Int32)), .val (.int (1 : Int32)), .val (.int (1 : Int32)), .val (.int (3 : Int32)), .unset, .unset, .unset, .unset] [(.int (1 : Int32))]
        refine OwnW.istore (pc' := 43) (L' := #[.val (.int sel), .val (.long est), .second, .val (.long lo1), .second, .val (.long up1), .second, .val (.long lo2), .second, .val (.long up2), .second, .val (.int (0 : Int32)), .val (.int (1 : Int32)), .val (.int (1 : Int32)), .val (.int (3 : Int32)), .val (.int (1 : Int32)), .unset, .unset, .unset]) at_41 rfl rfl ?_
        refine OwnW.iload (pc' := 45) at_43 rfl rfl ?_
        refine OwnW.iconst (pc' := 46) (v := (1 : Int32)) at_45 rfl rfl ?_
        refine OwnW.iand (pc' := 47) at_46 rfl ?_
        show GoB0 l Z n0 OwnW.One1 h0 0 0 47 #[.val (.int sel), .val (.long est), .second, .val (.long lo1), .second, .val (.long up1), .second, .val (.long lo2), .second, .val (.long up2), .second, .val (.int (0 : Int32)), .val (.int (1 : Int32)), .val (.int (1 : Int32)), .val (.int (3 : Int32)), .val (.int (1 : Int32)), .unset, .unset, .unset] [(.int (1 : Int32))]
        refine OwnW.istore (pc' := 49) (L' := #[.val (.int sel), .val (.long est), .second, .val (.long lo1), .second, .val (.long up1), .second, .val (.long lo2), .second, .val (.long up2), .second, .val (.int (0 : Int32)), .val (.int (1 : Int32)), .val (.int (1 : Int32)), .val (.int (3 : Int32)), .val (.int (1 : Int32)), .val (.int (1 : Int32)), .unset, .unset]) at_47 rfl rfl ?_
        refine OwnW.iloadN (pc' := 50) at_49 rfl rfl ?_
        refine OwnW.bipush (pc' := 52) (v := (16 : Int32)) at_50 rfl rfl ?_
        refine OwnW.iand (pc' := 53) at_52 rfl ?_
        suffices J53_61 : ∀ (sb : Int32), sb = (if (sel &&& (16 : Int32)) = (0 : Int32) then (0 : Int32) else (1 : Int32)) → GoB0 l Z n0 OwnW.One1 h0 0 0 61 #[.val (.int sel), .val (.long est), .second, .val (.long lo1), .second, .val (.long up1), .second, .val (.long lo2), .second, .val (.long up2), .second, .val (.int (0 : Int32)), .val (.int (1 : Int32)), .val (.int (1 : Int32)), .val (.int (3 : Int32)), .val (.int (1 : Int32)), .val (.int (1 : Int32)), .unset, .unset] [(.int sb)] by
          by_cases hc53 : (sel &&& (16 : Int32)) = (0 : Int32)
          ·
            refine OwnW.ifcY (pc' := 60) at_53 ((if0 _ _).trans (teq hc53).1) (by decide) (by decide) ?_
            refine OwnW.iconst (pc' := 61) (v := (0 : Int32)) at_60 rfl rfl ?_
            exact J53_61 _ (by first | simp only [if_pos hc53] | rfl)
          ·
            refine OwnW.ifcN (pc' := 56) at_53 ((if0 _ _).trans (feq hc53).1) rfl ?_
            refine OwnW.iconst (pc' := 57) (v := (1 : Int32)) at_56 rfl rfl ?_
            refine OwnW.goto (pc' := 61) at_57 (by decide) (by decide) ?_
            exact J53_61 _ (by first | simp only [if_neg hc53] | rfl)
        intro sb hsb
        refine OwnW.istore (pc' := 63) (L' := #[.val (.int sel), .val (.long est), .second, .val (.long lo1), .second, .val (.long up1), .second, .val (.long lo2), .second, .val (.long up2), .second, .val (.int (0 : Int32)), .val (.int (1 : Int32)), .val (.int (1 : Int32)), .val (.int (3 : Int32)), .val (.int (1 : Int32)), .val (.int (1 : Int32)), .val (.int sb), .unset]) at_61 rfl rfl ?_
        refine OwnW.newO (a0 := a0) (pc' := 66) (k' := 1) (n' := 3) at_63 (hw _ (List.mem_of_getElem? (i := 0) rfl)) (hw _ (List.mem_of_getElem? (i := 1) rfl)) (hw _ (List.mem_of_getElem? (i := 2) rfl)) rfl rfl (by decide) (by decide) rfl ?_
        intro h216 ad216 g216 E216 A216 D216
        have ge_ad216 : n0 ≤ ad216 := Nat.le_trans Z0 (Nat.le_of_eq g216.symm)
        have sz_ad216 : n0 ≤ h216.size := Nat.le_trans Z0 E216.1
        have F216_lower : Fld Z h216 ad216 "com/example/parley/parley/treesearch/ChildBounds" "lower" "[[J" .null := D216 (Or.inr (hw _ (List.mem_of_getElem? (i := 13) rfl))) (ty := (.array (.array .long))) (by decide)
        have F216_upper : Fld Z h216 ad216 "com/example/parley/parley/treesearch/ChildBounds" "upper" "[[J" .null := D216 (Or.inr (hw _ (List.mem_of_getElem? (i := 15) rfl))) (ty := (.array (.array .long))) (by decide)
        have F216_assignments : Fld Z h216 ad216 "com/example/parley/parley/treesearch/ChildBounds" "assignments" "[[Lcom/example/parley/parley/treesearch/SubtreeAssignment;" .null := D216 (Or.inr (hw _ (List.mem_of_getElem? (i := 20) rfl))) (ty := (.array (.array (.object "com/example/parley/parley/treesearch/SubtreeAssignment")))) (by decide)
        refine OwnW.dup (pc' := 67) at_66 rfl rfl ?_
        refine OwnW.iconst (pc' := 68) (v := (2 : Int32)) at_67 rfl rfl ?_
        refine OwnW.iconst (pc' := 69) (v := (2 : Int32)) at_68 rfl rfl ?_
        refine OwnW.callI (a0 := a0) (pc' := 72) (W := 1) (k' := 10) (n' := 21) (argsL := [(.int (2 : Int32)), (.int (2 : Int32))]) (rest := [(.ref ad216)]) at_69 rfl (hw _ (List.mem_of_getElem? (i := 3) rfl)) (hw _ (List.mem_of_getElem? (i := 4) rfl)) (hw _ (List.mem_of_getElem? (i := 2) rfl)) (hw _ (List.mem_of_getElem? (i := 5) rfl)) (by decide) (rm1 l Z a0 hw ad216 h216 n0 sz_ad216 ge_ad216 A216 F216_lower F216_upper F216_assignments) (by decide) (by decide) rfl rfl (by decide) (by decide) rfl pd_28II29V rfl rfl rfl (Nat.le_of_ble_eq_true rfl) rfl ?_
        rintro h217 v217 ⟨ad217_0, ad217_1, ad217_2, kc217_0, kc217_1, kc217_2, kc217_3, kc217_4, kc217_5, rfl, K217, gl217_0, gl217_1, gl217_2, nn217_0_1, nn217_0_2, nn217_1_2, pp217_0, pp217_1, Fc217_0, Fc217_1, Fc217_2, Fc217_3, Fc217_4, Fc217_5, Fc217_6, Fc217_7, Fc217_8, Fc217_9, Fc217_10, Fc217_11, Fc217_12, Fc217_13⟩
        have lt_ad216_ad217_0 : @LT.lt Nat _ ad216 ad217_0 := Nat.lt_of_lt_of_le (A216).lt gl217_0
        have ge_ad217_0 : n0 ≤ ad217_0 := Nat.le_trans sz_ad216 gl217_0
        have lt_ad216_ad217_1 : @LT.lt Nat _ ad216 ad217_1 := Nat.lt_of_lt_of_le (A216).lt gl217_1
        have ge_ad217_1 : n0 ≤ ad217_1 := Nat.le_trans sz_ad216 gl217_1
        have lt_ad216_ad217_2 : @LT.lt Nat _ ad216 ad217_2 := Nat.lt_of_lt_of_le (A216).lt gl217_2
        have ge_ad217_2 : n0 ≤ ad217_2 := Nat.le_trans sz_ad216 gl217_2
        have sz218 : n0 ≤ h217.size := Nat.le_trans sz_ad216 K217.1
        show GoB0 l Z n0 OwnW.One1 h217 10 21 72 #[.val (.int sel), .val (.long est), .second, .val (.long lo1), .second, .val (.long up1), .second, .val (.long lo2), .second, .val (.long up2), .second, .val (.int (0 : Int32)), .val (.int (1 : Int32)), .val (.int (1 : Int32)), .val (.int (3 : Int32)), .val (.int (1 : Int32)), .val (.int (1 : Int32)), .val (.int sb), .unset] [(.ref ad216)]
        refine OwnW.astore (pc' := 74) (L' := #[.val (.int sel), .val (.long est), .second, .val (.long lo1), .second, .val (.long up1), .second, .val (.long lo2), .second, .val (.long up2), .second, .val (.int (0 : Int32)), .val (.int (1 : Int32)), .val (.int (1 : Int32)), .val (.int (3 : Int32)), .val (.int (1 : Int32)), .val (.int (1 : Int32)), .val (.int sb), .val (.ref ad216)]) at_72 (rfl) rfl rfl ?_
        refine OwnW.iload (pc' := 76) at_74 rfl rfl ?_
        by_cases hc76 : sb = (0 : Int32)
        ·
          refine OwnW.ifcY (pc' := 92) at_76 ((if0 _ _).trans (teq hc76).1) (by decide) (by decide) ?_
          refine OwnW.aload (pc' := 94) at_92 rfl (rfl) rfl ?_
          refine OwnW.iload (pc' := 96) at_94 rfl rfl ?_
          refine OwnW.iload (pc' := 98) at_96 rfl rfl ?_
          refine OwnW.lload (pc' := 100) at_98 rfl rfl ?_
          refine OwnW.lload (pc' := 102) at_100 rfl rfl ?_
          refine OwnW.aconstNull (pc' := 103) at_102 rfl ?_
          refine OwnW.callV (a0 := a0) (pc' := 106) (W := 0) (k' := 10) (n' := 21) (argsL := [(.int (1 : Int32)), (.int (1 : Int32)), (.long lo2), (.long up2), .null]) (rest := []) at_103 (hw _ (List.mem_of_getElem? (i := 26) rfl)) (hw _ (List.mem_of_getElem? (i := 27) rfl)) (hw _ (List.mem_of_getElem? (i := 29) rfl)) (hw _ (List.mem_of_getElem? (i := 28) rfl)) (hw _ (List.mem_of_getElem? (i := 2) rfl)) (hw _ (List.mem_of_getElem? (i := 30) rfl)) (by decide) Fc217_0 (rm4_11 l Z a0 hw ad216 lo2 up2 ad217_0 (ad217_0 + 1) (ad217_0 + 2) kc217_0 kc217_1 (0 : Int64) (0 : Int64) ad217_1 (ad217_1 + 1) (ad217_1 + 2) kc217_2 kc217_3 (9223372036854775807 : Int64) (9223372036854775807 : Int64) ad217_2 (ad217_2 + 1) (ad217_2 + 2) kc217_4 kc217_5 h217 n0 sz218 (Nat.le_trans ge_ad217_0 (Nat.le_add_right _ _)) (Nat.le_trans ge_ad217_1 (Nat.le_add_right _ _)) (Nat.le_trans ge_ad217_2 (Nat.le_add_right _ _)) Fc217_0 Fc217_1 Fc217_4 Fc217_6 Fc217_2 Fc217_7 Fc217_9 Fc217_3 Fc217_10 Fc217_12 (by omega : @Ne Nat (ad217_0 + 2) ad217_1) (by omega : @Ne Nat (ad217_0 + 2) (ad217_1 + 2)) (by omega : @Ne Nat (ad217_0 + 2) ad217_2) (by omega : @Ne Nat (ad217_0 + 2) (ad217_2 + 2)) (by omega : @Ne Nat (ad217_0 + 2) ad216) (by omega : @Ne Nat (ad217_0 + 2) ad217_0) (by omega : @Ne Nat (ad217_1 + 2) ad217_2) (by omega : @Ne Nat (ad217_1 + 2) (ad217_2 + 2)) (by omega : @Ne Nat (ad217_1 + 2) ad216) (by omega : @Ne Nat (ad217_1 + 2) ad217_0) (by omega : @Ne Nat (ad217_1 + 2) ad217_1) (by omega : @Ne Nat (ad217_2 + 2) ad216) (by omega : @Ne Nat (ad217_2 + 2) ad217_0) (by omega : @Ne Nat (ad217_2 + 2) ad217_1) (by omega : @Ne Nat (ad217_2 + 2) ad217_2)) (by decide) (by decide) rfl rfl (by decide) (by decide) rfl pd_28IIJJLcom2fexample2fparley2fparley2ftreesearch2fSubtreeAssignment3b29V rfl rfl rfl (Nat.le_of_ble_eq_true rfl) rfl ?_
          rintro h219 v219 ⟨rfl, K219, Fc219_0, Fc219_1, Fc219_2⟩
          have sz220 : n0 ≤ h219.size := Nat.le_trans sz218 K219.1
          show GoB0 l Z n0 OwnW.One1 h219 10 21 106 #[.val (.int sel), .val (.long est), .second, .val (.long lo1), .second, .val (.long up1), .second, .val (.long lo2), .second, .val (.long up2), .second, .val (.int (0 : Int32)), .val (.int (1 : Int32)), .val (.int (1 : Int32)), .val (.int (3 : Int32)), .val (.int (1 : Int32)), .val (.int (1 : Int32)), .val (.int sb), .val (.ref ad216)] []
          refine OwnW.aload (pc' := 108) at_106 rfl (rfl) rfl ?_
          refine OwnW.iload (pc' := 110) at_108 rfl rfl ?_
          refine OwnW.iload (pc' := 112) at_110 rfl rfl ?_
          refine OwnW.lloadN (pc' := 113) at_112 rfl rfl ?_
          have F221 := (Fc217_0.keep K219)
          have F222 := (Fc217_1.keep K219 (ninS (by omega : @Ne Nat ad216 (ad217_0 + 2)) (ninS (by omega : @Ne Nat ad216 (ad217_1 + 2)) (ninS (by omega : @Ne Nat ad216 (ad217_2 + 2)) nin0))))
          have F223 := (Fc217_4.keep K219 (ninS (by omega : @Ne Nat ad217_0 (ad217_0 + 2)) (ninS (by omega : @Ne Nat ad217_0 (ad217_1 + 2)) (ninS (by omega : @Ne Nat ad217_0 (ad217_2 + 2)) nin0))))
          have F224 := (Fc217_5.keep K219 (ninS (by omega : @Ne Nat (ad217_0 + 1) (ad217_0 + 2)) (ninS (by omega : @Ne Nat (ad217_0 + 1) (ad217_1 + 2)) (ninS (by omega : @Ne Nat (ad217_0 + 1) (ad217_2 + 2)) nin0))))
          have F225 := (Fc217_2.keep K219 (ninS (by omega : @Ne Nat ad216 (ad217_0 + 2)) (ninS (by omega : @Ne Nat ad216 (ad217_1 + 2)) (ninS (by omega : @Ne Nat ad216 (ad217_2 + 2)) nin0))))
          have F226 := (Fc217_7.keep K219 (ninS (by omega : @Ne Nat ad217_1 (ad217_0 + 2)) (ninS (by omega : @Ne Nat ad217_1 (ad217_1 + 2)) (ninS (by omega : @Ne Nat ad217_1 (ad217_2 + 2)) nin0))))
          have F227 := (Fc217_8.keep K219 (ninS (by omega : @Ne Nat (ad217_1 + 1) (ad217_0 + 2)) (ninS (by omega : @Ne Nat (ad217_1 + 1) (ad217_1 + 2)) (ninS (by omega : @Ne Nat (ad217_1 + 1) (ad217_2 + 2)) nin0))))
          have F228 := (Fc217_3.keep K219 (ninS (by omega : @Ne Nat ad216 (ad217_0 + 2)) (ninS (by omega : @Ne Nat ad216 (ad217_1 + 2)) (ninS (by omega : @Ne Nat ad216 (ad217_2 + 2)) nin0))))
          have F229 := (Fc217_10.keep K219 (ninS (by omega : @Ne Nat ad217_2 (ad217_0 + 2)) (ninS (by omega : @Ne Nat ad217_2 (ad217_1 + 2)) (ninS (by omega : @Ne Nat ad217_2 (ad217_2 + 2)) nin0))))
          have F230 := (Fc217_11.keep K219 (ninS (by omega : @Ne Nat (ad217_2 + 1) (ad217_0 + 2)) (ninS (by omega : @Ne Nat (ad217_2 + 1) (ad217_1 + 2)) (ninS (by omega : @Ne Nat (ad217_2 + 1) (ad217_2 + 2)) nin0))))
          refine OwnW.callV (a0 := a0) (pc' := 116) (W := 0) (k' := 10) (n' := 21) (argsL := [(.int (0 : Int32)), (.int (1 : Int32)), (.long est)]) (rest := []) at_113 (hw _ (List.mem_of_getElem? (i := 31) rfl)) (hw _ (List.mem_of_getElem? (i := 32) rfl)) (hw _ (List.mem_of_getElem? (i := 34) rfl)) (hw _ (List.mem_of_getElem? (i := 33) rfl)) (hw _ (List.mem_of_getElem? (i := 2) rfl)) (hw _ (List.mem_of_getElem? (i := 35) rfl)) (by decide) F221 (rm5_01 l Z a0 hw ad216 est ad217_0 (ad217_0 + 1) (ad217_0 + 2) kc217_0 kc217_1 (0 : Int64) (0 : Int64) ad217_1 (ad217_1 + 1) (ad217_1 + 2) kc217_2 kc217_3 (9223372036854775807 : Int64) (9223372036854775807 : Int64) ad217_2 (ad217_2 + 1) (ad217_2 + 2) kc217_4 kc217_5 h219 n0 sz220 (Nat.le_trans ge_ad217_0 (Nat.le_add_right _ _)) (Nat.le_trans ge_ad217_1 (Nat.le_add_right _ _)) (Nat.le_trans ge_ad217_2 (Nat.le_add_right _ _)) F221 F222 F223 F224 F225 F226 F227 F228 F229 F230 (by omega : @Ne Nat (ad217_0 + 1) ad217_1) (by omega : @Ne Nat (ad217_0 + 1) (ad217_1 + 1)) (by omega : @Ne Nat (ad217_0 + 1) ad217_2) (by omega : @Ne Nat (ad217_0 + 1) (ad217_2 + 1)) (by omega : @Ne Nat (ad217_0 + 1) ad216) (by omega : @Ne Nat (ad217_0 + 1) ad217_0) (by omega : @Ne Nat (ad217_1 + 1) ad217_2) (by omega : @Ne Nat (ad217_1 + 1) (ad217_2 + 1)) (by omega : @Ne Nat (ad217_1 + 1) ad216) (by omega : @Ne Nat (ad217_1 + 1) ad217_0) (by omega : @Ne Nat (ad217_1 + 1) ad217_1) (by omega : @Ne Nat (ad217_2 + 1) ad216) (by omega : @Ne Nat (ad217_2 + 1) ad217_0) (by omega : @Ne Nat (ad217_2 + 1) ad217_1) (by omega : @Ne Nat (ad217_2 + 1) ad217_2)) (by decide) (by decide) rfl rfl (by decide) (by decide) rfl pd_28IIJ29V rfl rfl rfl (Nat.le_of_ble_eq_true rfl) rfl ?_
          rintro h231 v231 ⟨rfl, K231, Fc231_0, Fc231_1, Fc231_2⟩
          have sz232 : n0 ≤ h231.size := Nat.le_trans sz220 K231.1
          show GoB0 l Z n0 OwnW.One1 h231 10 21 116 #[.val (.int sel), .val (.long est), .second, .val (.long lo1), .second, .val (.long up1), .second, .val (.long lo2), .second, .val (.long up2), .second, .val (.int (0 : Int32)), .val (.int (1 : Int32)), .val (.int (1 : Int32)), .val (.int (3 : Int32)), .val (.int (1 : Int32)), .val (.int (1 : Int32)), .val (.int sb), .val (.ref ad216)] []
          refine OwnW.aload (pc' := 118) at_116 rfl (rfl) rfl ?_
          refine OwnW.iload (pc' := 120) at_118 rfl rfl ?_
          refine OwnW.iload (pc' := 122) at_120 rfl rfl ?_
          have F233 := (F222.keep K231 (ninS (by omega : @Ne Nat ad216 (ad217_0 + 1)) (ninS (by omega : @Ne Nat ad216 (ad217_1 + 1)) (ninS (by omega : @Ne Nat ad216 (ad217_2 + 1)) nin0))))
          have F234 := (F223.keep K231 (ninS (by omega : @Ne Nat ad217_0 (ad217_0 + 1)) (ninS (by omega : @Ne Nat ad217_0 (ad217_1 + 1)) (ninS (by omega : @Ne Nat ad217_0 (ad217_2 + 1)) nin0))))
          have F235 := (F221.keep K231)
          refine OwnW.callV0 (a0 := a0) (pc' := 125) (W := 0) (k' := 10) (n' := 21) (argsL := [(.int (0 : Int32)), (.int (1 : Int32))]) (rest := []) (St' := [(.long (f6_01 ad216 ad217_0 (ad217_0 + 1) (ad217_0 + 2) kc217_0 kc217_1 (0 : Int64) est))]) at_122 (hw _ (List.mem_of_getElem? (i := 36) rfl)) (hw _ (List.mem_of_getElem? (i := 37) rfl)) (hw _ (List.mem_of_getElem? (i := 39) rfl)) (hw _ (List.mem_of_getElem? (i := 38) rfl)) (hw _ (List.mem_of_getElem? (i := 2) rfl)) (hw _ (List.mem_of_getElem? (i := 40) rfl)) (by decide) F235 (rm6_01 l Z a0 hw ad216 ad217_0 (ad217_0 + 1) (ad217_0 + 2) kc217_0 kc217_1 (0 : Int64) est h231 n0 F233 F234 Fc231_0) (by decide) (by decide) rfl rfl (by decide) (by decide) rfl pd_28II29J rfl rfl rfl (Nat.le_of_ble_eq_true rfl) rfl rfl ?_
          refine OwnW.lloadN (pc' := 126) at_125 rfl rfl ?_
          refine OwnW.lcmp (pc' := 127) at_126 rfl ?_
          refine OwnW.ifcN (pc' := 130) at_127 ((if0 _ _).trans (teq ((lw_eq _ _).mpr rfl)).2) rfl ?_
          refine OwnW.aload (pc' := 132) at_130 rfl (rfl) rfl ?_
          refine OwnW.iload (pc' := 134) at_132 rfl rfl ?_
          refine OwnW.iload (pc' := 136) at_134 rfl rfl ?_
          have F236 := (F225.keep K231 (ninS (by omega : @Ne Nat ad216 (ad217_0 + 1)) (ninS (by omega : @Ne Nat ad216 (ad217_1 + 1)) (ninS (by omega : @Ne Nat ad216 (ad217_2 + 1)) nin0))))
          have F237 := (F226.keep K231 (ninS (by omega : @Ne Nat ad217_1 (ad217_0 + 1)) (ninS (by omega : @Ne Nat ad217_1 (ad217_1 + 1)) (ninS (by omega : @Ne Nat ad217_1 (ad217_2 + 1)) nin0))))
          refine OwnW.callV0 (a0 := a0) (pc' := 139) (W := 0) (k' := 10) (n' := 21) (argsL := [(.int (0 : Int32)), (.int (1 : Int32))]) (rest := []) (St' := [(.long (f7_01 ad216 ad217_1 (ad217_1 + 1) (ad217_1 + 2) kc217_2 kc217_3 (9223372036854775807 : Int64) (9223372036854775807 : Int64)))]) at_136 (hw _ (List.mem_of_getElem? (i := 41) rfl)) (hw _ (List.mem_of_getElem? (i := 42) rfl)) (hw _ (List.mem_of_getElem? (i := 44) rfl)) (hw _ (List.mem_of_getElem? (i := 43) rfl)) (hw _ (List.mem_of_getElem? (i := 2) rfl)) (hw _ (List.mem_of_getElem? (i := 45) rfl)) (by decide) F235 (rm7_01 l Z a0 hw ad216 ad217_1 (ad217_1 + 1) (ad217_1 + 2) kc217_2 kc217_3 (9223372036854775807 : Int64) (9223372036854775807 : Int64) h231 n0 F236 F237 Fc231_1) (by decide) (by decide) rfl rfl (by decide) (by decide) rfl pd_28II29J rfl rfl rfl (Nat.le_of_ble_eq_true rfl) rfl rfl ?_
          refine OwnW.ldc2J (a0 := a0) (pc' := 142) (v := (9223372036854775807 : Int64)) at_139 (hw _ (List.mem_of_getElem? (i := 46) rfl)) rfl ?_
          refine OwnW.lcmp (pc' := 143) at_142 rfl ?_
          refine OwnW.ifcN (pc' := 146) at_143 ((if0 _ _).trans (teq ((lw_eq _ _).mpr rfl)).2) rfl ?_
          refine OwnW.aload (pc' := 148) at_146 rfl (rfl) rfl ?_
          refine OwnW.iload (pc' := 150) at_148 rfl rfl ?_
          refine OwnW.iload (pc' := 152) at_150 rfl rfl ?_
          have F238 := (Fc219_0.keep K231 (ninS (by omega : @Ne Nat (ad217_0 + 2) (ad217_0 + 1)) (ninS (by omega : @Ne Nat (ad217_0 + 2) (ad217_1 + 1)) (ninS (by omega : @Ne Nat (ad217_0 + 2) (ad217_2 + 1)) nin0))))
          refine OwnW.callV0 (a0 := a0) (pc' := 155) (W := 0) (k' := 10) (n' := 21) (argsL := [(.int (1 : Int32)), (.int (1 : Int32))]) (rest := []) (St' := [(.long (f6_11 ad216 ad217_0 (ad217_0 + 1) (ad217_0 + 2) kc217_0 kc217_1 (0 : Int64) lo2))]) at_152 (hw _ (List.mem_of_getElem? (i := 36) rfl)) (hw _ (List.mem_of_getElem? (i := 37) rfl)) (hw _ (List.mem_of_getElem? (i := 39) rfl)) (hw _ (List.mem_of_getElem? (i := 38) rfl)) (hw _ (List.mem_of_getElem? (i := 2) rfl)) (hw _ (List.mem_of_getElem? (i := 40) rfl)) (by decide) F235 (rm6_11 l Z a0 hw ad216 ad217_0 (ad217_0 + 1) (ad217_0 + 2) kc217_0 kc217_1 (0 : Int64) lo2 h231 n0 F233 F234 F238) (by decide) (by decide) rfl rfl (by decide) (by decide) rfl pd_28II29J rfl rfl rfl (Nat.le_of_ble_eq_true rfl) rfl rfl ?_
          refine OwnW.lload (pc' := 157) at_155 rfl rfl ?_
          refine OwnW.lcmp (pc' := 158) at_157 rfl ?_
          refine OwnW.ifcN (pc' := 161) at_158 ((if0 _ _).trans (teq ((lw_eq _ _).mpr rfl)).2) rfl ?_
          refine OwnW.aload (pc' := 163) at_161 rfl (rfl) rfl ?_
          refine OwnW.iload (pc' := 165) at_163 rfl rfl ?_
          refine OwnW.iload (pc' := 167) at_165 rfl rfl ?_
          have F239 := (Fc219_1.keep K231 (ninS (by omega : @Ne Nat (ad217_1 + 2) (ad217_0 + 1)) (ninS (by omega : @Ne Nat (ad217_1 + 2) (ad217_1 + 1)) (ninS (by omega : @Ne Nat (ad217_1 + 2) (ad217_2 + 1)) nin0))))
          refine OwnW.callV0 (a0 := a0) (pc' := 170) (W := 0) (k' := 10) (n' := 21) (argsL := [(.int (1 : Int32)), (.int (1 : Int32))]) (rest := []) (St' := [(.long (f7_11 ad216 ad217_1 (ad217_1 + 1) (ad217_1 + 2) kc217_2 kc217_3 (9223372036854775807 : Int64) up2))]) at_167 (hw _ (List.mem_of_getElem? (i := 41) rfl)) (hw _ (List.mem_of_getElem? (i := 42) rfl)) (hw _ (List.mem_of_getElem? (i := 44) rfl)) (hw _ (List.mem_of_getElem? (i := 43) rfl)) (hw _ (List.mem_of_getElem? (i := 2) rfl)) (hw _ (List.mem_of_getElem? (i := 45) rfl)) (by decide) F235 (rm7_11 l Z a0 hw ad216 ad217_1 (ad217_1 + 1) (ad217_1 + 2) kc217_2 kc217_3 (9223372036854775807 : Int64) up2 h231 n0 F236 F237 F239) (by decide) (by decide) rfl rfl (by decide) (by decide) rfl pd_28II29J rfl rfl rfl (Nat.le_of_ble_eq_true rfl) rfl rfl ?_
          refine OwnW.lload (pc' := 172) at_170 rfl rfl ?_
          refine OwnW.lcmp (pc' := 173) at_172 rfl ?_
          refine OwnW.ifcN (pc' := 176) at_173 ((if0 _ _).trans (teq ((lw_eq _ _).mpr rfl)).2) rfl ?_
          refine OwnW.iconst (pc' := 177) (v := (1 : Int32)) at_176 rfl rfl ?_
          refine OwnW.goto (pc' := 181) at_177 (by decide) (by decide) ?_
          exact OwnW.retN (t := .boolean) at_181 rfl (by simp) rfl (by decide) (by decide) (rfl)
        ·
          refine OwnW.ifcN (pc' := 79) at_76 ((if0 _ _).trans (feq hc76).1) rfl ?_
          refine OwnW.aload (pc' := 81) at_79 rfl (rfl) rfl ?_
          refine OwnW.iload (pc' := 83) at_81 rfl rfl ?_
          refine OwnW.iload (pc' := 85) at_83 rfl rfl ?_
          refine OwnW.lloadN (pc' := 86) at_85 rfl rfl ?_
          refine OwnW.lload (pc' := 88) at_86 rfl rfl ?_
          refine OwnW.aconstNull (pc' := 89) at_88 rfl ?_
          refine OwnW.callV (a0 := a0) (pc' := 92) (W := 0) (k' := 10) (n' := 21) (argsL := [(.int (0 : Int32)), (.int (1 : Int32)), (.long lo1), (.long up1), .null]) (rest := []) at_89 (hw _ (List.mem_of_getElem? (i := 26) rfl)) (hw _ (List.mem_of_getElem? (i := 27) rfl)) (hw _ (List.mem_of_getElem? (i := 29) rfl)) (hw _ (List.mem_of_getElem? (i := 28) rfl)) (hw _ (List.mem_of_getElem? (i := 2) rfl)) (hw _ (List.mem_of_getElem? (i := 30) rfl)) (by decide) Fc217_0 (rm4_01 l Z a0 hw ad216 lo1 up1 ad217_0 (ad217_0 + 1) (ad217_0 + 2) kc217_0 kc217_1 (0 : Int64) (0 : Int64) ad217_1 (ad217_1 + 1) (ad217_1 + 2) kc217_2 kc217_3 (9223372036854775807 : Int64) (9223372036854775807 : Int64) ad217_2 (ad217_2 + 1) (ad217_2 + 2) kc217_4 kc217_5 h217 n0 sz218 (Nat.le_trans ge_ad217_0 (Nat.le_add_right _ _)) (Nat.le_trans ge_ad217_1 (Nat.le_add_right _ _)) (Nat.le_trans ge_ad217_2 (Nat.le_add_right _ _)) Fc217_0 Fc217_1 Fc217_4 Fc217_5 Fc217_2 Fc217_7 Fc217_8 Fc217_3 Fc217_10 Fc217_11 (by omega : @Ne Nat (ad217_0 + 1) ad217_1) (by omega : @Ne Nat (ad217_0 + 1) (ad217_1 + 1)) (by omega : @Ne Nat (ad217_0 + 1) ad217_2) (by omega : @Ne Nat (ad217_0 + 1) (ad217_2 + 1)) (by omega : @Ne Nat (ad217_0 + 1) ad216) (by omega : @Ne Nat (ad217_0 + 1) ad217_0) (by omega : @Ne Nat (ad217_1 + 1) ad217_2) (by omega : @Ne Nat (ad217_1 + 1) (ad217_2 + 1)) (by omega : @Ne Nat (ad217_1 + 1) ad216) (by omega : @Ne Nat (ad217_1 + 1) ad217_0) (by omega : @Ne Nat (ad217_1 + 1) ad217_1) (by omega : @Ne Nat (ad217_2 + 1) ad216) (by omega : @Ne Nat (ad217_2 + 1) ad217_0) (by omega : @Ne Nat (ad217_2 + 1) ad217_1) (by omega : @Ne Nat (ad217_2 + 1) ad217_2)) (by decide) (by decide) rfl rfl (by decide) (by decide) rfl pd_28IIJJLcom2fexample2fparley2fparley2ftreesearch2fSubtreeAssignment3b29V rfl rfl rfl (Nat.le_of_ble_eq_true rfl) rfl ?_
          rintro h240 v240 ⟨rfl, K240, Fc240_0, Fc240_1, Fc240_2⟩
          have sz241 : n0 ≤ h240.size := Nat.le_trans sz218 K240.1
          show GoB0 l Z n0 OwnW.One1 h240 10 21 92 #[.val (.int sel), .val (.long est), .second, .val (.long lo1), .second, .val (.long up1), .second, .val (.long lo2), .second, .val (.long up2), .second, .val (.int (0 : Int32)), .val (.int (1 : Int32)), .val (.int (1 : Int32)), .val (.int (3 : Int32)), .val (.int (1 : Int32)), .val (.int (1 : Int32)), .val (.int sb), .val (.ref ad216)] []
          refine OwnW.aload (pc' := 94) at_92 rfl (rfl) rfl ?_
          refine OwnW.iload (pc' := 96) at_94 rfl rfl ?_
          refine OwnW.iload (pc' := 98) at_96 rfl rfl ?_
          refine OwnW.lload (pc' := 100) at_98 rfl rfl ?_
          refine OwnW.lload (pc' := 102) at_100 rfl rfl ?_
          refine OwnW.aconstNull (pc' := 103) at_102 rfl ?_
          have F242 := (Fc217_0.keep K240)
          have F243 := (Fc217_1.keep K240 (ninS (by omega : @Ne Nat ad216 (ad217_0 + 1)) (ninS (by omega : @Ne Nat ad216 (ad217_1 + 1)) (ninS (by omega : @Ne Nat ad216 (ad217_2 + 1)) nin0))))
          have F244 := (Fc217_4.keep K240 (ninS (by omega : @Ne Nat ad217_0 (ad217_0 + 1)) (ninS (by omega : @Ne Nat ad217_0 (ad217_1 + 1)) (ninS (by omega : @Ne Nat ad217_0 (ad217_2 + 1)) nin0))))
          have F245 := (Fc217_6.keep K240 (ninS (by omega : @Ne Nat (ad217_0 + 2) (ad217_0 + 1)) (ninS (by omega : @Ne Nat (ad217_0 + 2) (ad217_1 + 1)) (ninS (by omega : @Ne Nat (ad217_0 + 2) (ad217_2 + 1)) nin0))))
          have F246 := (Fc217_2.keep K240 (ninS (by omega : @Ne Nat ad216 (ad217_0 + 1)) (ninS (by omega : @Ne Nat ad216 (ad217_1 + 1)) (ninS (by omega : @Ne Nat ad216 (ad217_2 + 1)) nin0))))
          have F247 := (Fc217_7.keep K240 (ninS (by omega : @Ne Nat ad217_1 (ad217_0 + 1)) (ninS (by omega : @Ne Nat ad217_1 (ad217_1 + 1)) (ninS (by omega : @Ne Nat ad217_1 (ad217_2 + 1)) nin0))))
          have F248 := (Fc217_9.keep K240 (ninS (by omega : @Ne Nat (ad217_1 + 2) (ad217_0 + 1)) (ninS (by omega : @Ne Nat (ad217_1 + 2) (ad217_1 + 1)) (ninS (by omega : @Ne Nat (ad217_1 + 2) (ad217_2 + 1)) nin0))))
          have F249 := (Fc217_3.keep K240 (ninS (by omega : @Ne Nat ad216 (ad217_0 + 1)) (ninS (by omega : @Ne Nat ad216 (ad217_1 + 1)) (ninS (by omega : @Ne Nat ad216 (ad217_2 + 1)) nin0))))
          have F250 := (Fc217_10.keep K240 (ninS (by omega : @Ne Nat ad217_2 (ad217_0 + 1)) (ninS (by omega : @Ne Nat ad217_2 (ad217_1 + 1)) (ninS (by omega : @Ne Nat ad217_2 (ad217_2 + 1)) nin0))))
          have F251 := (Fc217_12.keep K240 (ninS (by omega : @Ne Nat (ad217_2 + 2) (ad217_0 + 1)) (ninS (by omega : @Ne Nat (ad217_2 + 2) (ad217_1 + 1)) (ninS (by omega : @Ne Nat (ad217_2 + 2) (ad217_2 + 1)) nin0))))
          refine OwnW.callV (a0 := a0) (pc' := 106) (W := 0) (k' := 10) (n' := 21) (argsL := [(.int (1 : Int32)), (.int (1 : Int32)), (.long lo2), (.long up2), .null]) (rest := []) at_103 (hw _ (List.mem_of_getElem? (i := 26) rfl)) (hw _ (List.mem_of_getElem? (i := 27) rfl)) (hw _ (List.mem_of_getElem? (i := 29) rfl)) (hw _ (List.mem_of_getElem? (i := 28) rfl)) (hw _ (List.mem_of_getElem? (i := 2) rfl)) (hw _ (List.mem_of_getElem? (i := 30) rfl)) (by decide) F242 (rm4_11 l Z a0 hw ad216 lo2 up2 ad217_0 (ad217_0 + 1) (ad217_0 + 2) kc217_0 kc217_1 (0 : Int64) (0 : Int64) ad217_1 (ad217_1 + 1) (ad217_1 + 2) kc217_2 kc217_3 (9223372036854775807 : Int64) (9223372036854775807 : Int64) ad217_2 (ad217_2 + 1) (ad217_2 + 2) kc217_4 kc217_5 h240 n0 sz241 (Nat.le_trans ge_ad217_0 (Nat.le_add_right _ _)) (Nat.le_trans ge_ad217_1 (Nat.le_add_right _ _)) (Nat.le_trans ge_ad217_2 (Nat.le_add_right _ _)) F242 F243 F244 F245 F246 F247 F248 F249 F250 F251 (by omega : @Ne Nat (ad217_0 + 2) ad217_1) (by omega : @Ne Nat (ad217_0 + 2) (ad217_1 + 2)) (by omega : @Ne Nat (ad217_0 + 2) ad217_2) (by omega : @Ne Nat (ad217_0 + 2) (ad217_2 + 2)) (by omega : @Ne Nat (ad217_0 + 2) ad216) (by omega : @Ne Nat (ad217_0 + 2) ad217_0) (by omega : @Ne Nat (ad217_1 + 2) ad217_2) (by omega : @Ne Nat (ad217_1 + 2) (ad217_2 + 2)) (by omega : @Ne Nat (ad217_1 + 2) ad216) (by omega : @Ne Nat (ad217_1 + 2) ad217_0) (by omega : @Ne Nat (ad217_1 + 2) ad217_1) (by omega : @Ne Nat (ad217_2 + 2) ad216) (by omega : @Ne Nat (ad217_2 + 2) ad217_0) (by omega : @Ne Nat (ad217_2 + 2) ad217_1) (by omega : @Ne Nat (ad217_2 + 2) ad217_2)) (by decide) (by decide) rfl rfl (by decide) (by decide) rfl pd_28IIJJLcom2fexample2fparley2fparley2ftreesearch2fSubtreeAssignment3b29V rfl rfl rfl (Nat.le_of_ble_eq_true rfl) rfl ?_
          rintro h252 v252 ⟨rfl, K252, Fc252_0, Fc252_1, Fc252_2⟩
          have sz253 : n0 ≤ h252.size := Nat.le_trans sz241 K252.1
          show GoB0 l Z n0 OwnW.One1 h252 10 21 106 #[.val (.int sel), .val (.long est), .second, .val (.long lo1), .second, .val (.long up1), .second, .val (.long lo2), .second, .val (.long up2), .second, .val (.int (0 : Int32)), .val (.int (1 : Int32)), .val (.int (1 : Int32)), .val (.int (3 : Int32)), .val (.int (1 : Int32)), .val (.int (1 : Int32)), .val (.int sb), .val (.ref ad216)] []
          refine OwnW.aload (pc' := 108) at_106 rfl (rfl) rfl ?_
          refine OwnW.iload (pc' := 110) at_108 rfl rfl ?_
          refine OwnW.iload (pc' := 112) at_110 rfl rfl ?_
          refine OwnW.lloadN (pc' := 113) at_112 rfl rfl ?_
          have F254 := (F242.keep K252)
          have F255 := (F243.keep K252 (ninS (by omega : @Ne Nat ad216 (ad217_0 + 2)) (ninS (by omega : @Ne Nat ad216 (ad217_1 + 2)) (ninS (by omega : @Ne Nat ad216 (ad217_2 + 2)) nin0))))
          have F256 := (F244.keep K252 (ninS (by omega : @Ne Nat ad217_0 (ad217_0 + 2)) (ninS (by omega : @Ne Nat ad217_0 (ad217_1 + 2)) (ninS (by omega : @Ne Nat ad217_0 (ad217_2 + 2)) nin0))))
          have F257 := (Fc240_0.keep K252 (ninS (by omega : @Ne Nat (ad217_0 + 1) (ad217_0 + 2)) (ninS (by omega : @Ne Nat (ad217_0 + 1) (ad217_1 + 2)) (ninS (by omega : @Ne Nat (ad217_0 + 1) (ad217_2 + 2)) nin0))))
          have F258 := (F246.keep K252 (ninS (by omega : @Ne Nat ad216 (ad217_0 + 2)) (ninS (by omega : @Ne Nat ad216 (ad217_1 + 2)) (ninS (by omega : @Ne Nat ad216 (ad217_2 + 2)) nin0))))
          have F259 := (F247.keep K252 (ninS (by omega : @Ne Nat ad217_1 (ad217_0 + 2)) (ninS (by omega : @Ne Nat ad217_1 (ad217_1 + 2)) (ninS (by omega : @Ne Nat ad217_1 (ad217_2 + 2)) nin0))))
          have F260 := (Fc240_1.keep K252 (ninS (by omega : @Ne Nat (ad217_1 + 1) (ad217_0 + 2)) (ninS (by omega : @Ne Nat (ad217_1 + 1) (ad217_1 + 2)) (ninS (by omega : @Ne Nat (ad217_1 + 1) (ad217_2 + 2)) nin0))))
          have F261 := (F249.keep K252 (ninS (by omega : @Ne Nat ad216 (ad217_0 + 2)) (ninS (by omega : @Ne Nat ad216 (ad217_1 + 2)) (ninS (by omega : @Ne Nat ad216 (ad217_2 + 2)) nin0))))
          have F262 := (F250.keep K252 (ninS (by omega : @Ne Nat ad217_2 (ad217_0 + 2)) (ninS (by omega : @Ne Nat ad217_2 (ad217_1 + 2)) (ninS (by omega : @Ne Nat ad217_2 (ad217_2 + 2)) nin0))))
          have F263 := (Fc240_2.keep K252 (ninS (by omega : @Ne Nat (ad217_2 + 1) (ad217_0 + 2)) (ninS (by omega : @Ne Nat (ad217_2 + 1) (ad217_1 + 2)) (ninS (by omega : @Ne Nat (ad217_2 + 1) (ad217_2 + 2)) nin0))))
          refine OwnW.callV (a0 := a0) (pc' := 116) (W := 0) (k' := 10) (n' := 21) (argsL := [(.int (0 : Int32)), (.int (1 : Int32)), (.long est)]) (rest := []) at_113 (hw _ (List.mem_of_getElem? (i := 31) rfl)) (hw _ (List.mem_of_getElem? (i := 32) rfl)) (hw _ (List.mem_of_getElem? (i := 34) rfl)) (hw _ (List.mem_of_getElem? (i := 33) rfl)) (hw _ (List.mem_of_getElem? (i := 2) rfl)) (hw _ (List.mem_of_getElem? (i := 35) rfl)) (by decide) F254 (rm5_01 l Z a0 hw ad216 est ad217_0 (ad217_0 + 1) (ad217_0 + 2) kc217_0 kc217_1 (0 : Int64) lo1 ad217_1 (ad217_1 + 1) (ad217_1 + 2) kc217_2 kc217_3 (9223372036854775807 : Int64) up1 ad217_2 (ad217_2 + 1) (ad217_2 + 2) kc217_4 kc217_5 h252 n0 sz253 (Nat.le_trans ge_ad217_0 (Nat.le_add_right _ _)) (Nat.le_trans ge_ad217_1 (Nat.le_add_right _ _)) (Nat.le_trans ge_ad217_2 (Nat.le_add_right _ _)) F254 F255 F256 F257 F258 F259 F260 F261 F262 F263 (by omega : @Ne Nat (ad217_0 + 1) ad217_1) (by omega : @Ne Nat (ad217_0 + 1) (ad217_1 + 1)) (by omega : @Ne Nat (ad217_0 + 1) ad217_2) (by omega : @Ne Nat (ad217_0 + 1) (ad217_2 + 1)) (by omega : @Ne Nat (ad217_0 + 1) ad216) (by omega : @Ne Nat (ad217_0 + 1) ad217_0) (by omega : @Ne Nat (ad217_1 + 1) ad217_2) (by omega : @Ne Nat (ad217_1 + 1) (ad217_2 + 1)) (by omega : @Ne Nat (ad217_1 + 1) ad216) (by omega : @Ne Nat (ad217_1 + 1) ad217_0) (by omega : @Ne Nat (ad217_1 + 1) ad217_1) (by omega : @Ne Nat (ad217_2 + 1) ad216) (by omega : @Ne Nat (ad217_2 + 1) ad217_0) (by omega : @Ne Nat (ad217_2 + 1) ad217_1) (by omega : @Ne Nat (ad217_2 + 1) ad217_2)) (by decide) (by decide) rfl rfl (by decide) (by decide) rfl pd_28IIJ29V rfl rfl rfl (Nat.le_of_ble_eq_true rfl) rfl ?_
          rintro h264 v264 ⟨rfl, K264, Fc264_0, Fc264_1, Fc264_2⟩
          have sz265 : n0 ≤ h264.size := Nat.le_trans sz253 K264.1
          show GoB0 l Z n0 OwnW.One1 h264 10 21 116 #[.val (.int sel), .val (.long est), .second, .val (.long lo1), .second, .val (.long up1), .second, .val (.long lo2), .second, .val (.long up2), .second, .val (.int (0 : Int32)), .val (.int (1 : Int32)), .val (.int (1 : Int32)), .val (.int (3 : Int32)), .val (.int (1 : Int32)), .val (.int (1 : Int32)), .val (.int sb), .val (.ref ad216)] []
          refine OwnW.aload (pc' := 118) at_116 rfl (rfl) rfl ?_
          refine OwnW.iload (pc' := 120) at_118 rfl rfl ?_
          refine OwnW.iload (pc' := 122) at_120 rfl rfl ?_
          have F266 := (F255.keep K264 (ninS (by omega : @Ne Nat ad216 (ad217_0 + 1)) (ninS (by omega : @Ne Nat ad216 (ad217_1 + 1)) (ninS (by omega : @Ne Nat ad216 (ad217_2 + 1)) nin0))))
          have F267 := (F256.keep K264 (ninS (by omega : @Ne Nat ad217_0 (ad217_0 + 1)) (ninS (by omega : @Ne Nat ad217_0 (ad217_1 + 1)) (ninS (by omega : @Ne Nat ad217_0 (ad217_2 + 1)) nin0))))
          have F268 := (F254.keep K264)
          refine OwnW.callV0 (a0 := a0) (pc' := 125) (W := 0) (k' := 10) (n' := 21) (argsL := [(.int (0 : Int32)), (.int (1 : Int32))]) (rest := []) (St' := [(.long (f6_01 ad216 ad217_0 (ad217_0 + 1) (ad217_0 + 2) kc217_0 kc217_1 (0 : Int64) est))]) at_122 (hw _ (List.mem_of_getElem? (i := 36) rfl)) (hw _ (List.mem_of_getElem? (i := 37) rfl)) (hw _ (List.mem_of_getElem? (i := 39) rfl)) (hw _ (List.mem_of_getElem? (i := 38) rfl)) (hw _ (List.mem_of_getElem? (i := 2) rfl)) (hw _ (List.mem_of_getElem? (i := 40) rfl)) (by decide) F268 (rm6_01 l Z a0 hw ad216 ad217_0 (ad217_0 + 1) (ad217_0 + 2) kc217_0 kc217_1 (0 : Int64) est h264 n0 F266 F267 Fc264_0) (by decide) (by decide) rfl rfl (by decide) (by decide) rfl pd_28II29J rfl rfl rfl (Nat.le_of_ble_eq_true rfl) rfl rfl ?_
          refine OwnW.lloadN (pc' := 126) at_125 rfl rfl ?_
          refine OwnW.lcmp (pc' := 127) at_126 rfl ?_
          refine OwnW.ifcN (pc' := 130) at_127 ((if0 _ _).trans (teq ((lw_eq _ _).mpr rfl)).2) rfl ?_
          refine OwnW.aload (pc' := 132) at_130 rfl (rfl) rfl ?_
          refine OwnW.iload (pc' := 134) at_132 rfl rfl ?_
          refine OwnW.iload (pc' := 136) at_134 rfl rfl ?_
          have F269 := (F258.keep K264 (ninS (by omega : @Ne Nat ad216 (ad217_0 + 1)) (ninS (by omega : @Ne Nat ad216 (ad217_1 + 1)) (ninS (by omega : @Ne Nat ad216 (ad217_2 + 1)) nin0))))
          have F270 := (F259.keep K264 (ninS (by omega : @Ne Nat ad217_1 (ad217_0 + 1)) (ninS (by omega : @Ne Nat ad217_1 (ad217_1 + 1)) (ninS (by omega : @Ne Nat ad217_1 (ad217_2 + 1)) nin0))))
          refine OwnW.callV0 (a0 := a0) (pc' := 139) (W := 0) (k' := 10) (n' := 21) (argsL := [(.int (0 : Int32)), (.int (1 : Int32))]) (rest := []) (St' := [(.long (f7_01 ad216 ad217_1 (ad217_1 + 1) (ad217_1 + 2) kc217_2 kc217_3 (9223372036854775807 : Int64) (9223372036854775807 : Int64)))]) at_136 (hw _ (List.mem_of_getElem? (i := 41) rfl)) (hw _ (List.mem_of_getElem? (i := 42) rfl)) (hw _ (List.mem_of_getElem? (i := 44) rfl)) (hw _ (List.mem_of_getElem? (i := 43) rfl)) (hw _ (List.mem_of_getElem? (i := 2) rfl)) (hw _ (List.mem_of_getElem? (i := 45) rfl)) (by decide) F268 (rm7_01 l Z a0 hw ad216 ad217_1 (ad217_1 + 1) (ad217_1 + 2) kc217_2 kc217_3 (9223372036854775807 : Int64) (9223372036854775807 : Int64) h264 n0 F269 F270 Fc264_1) (by decide) (by decide) rfl rfl (by decide) (by decide) rfl pd_28II29J rfl rfl rfl (Nat.le_of_ble_eq_true rfl) rfl rfl ?_
          refine OwnW.ldc2J (a0 := a0) (pc' := 142) (v := (9223372036854775807 : Int64)) at_139 (hw _ (List.mem_of_getElem? (i := 46) rfl)) rfl ?_
          refine OwnW.lcmp (pc' := 143) at_142 rfl ?_
          refine OwnW.ifcN (pc' := 146) at_143 ((if0 _ _).trans (teq ((lw_eq _ _).mpr rfl)).2) rfl ?_
          refine OwnW.aload (pc' := 148) at_146 rfl (rfl) rfl ?_
          refine OwnW.iload (pc' := 150) at_148 rfl rfl ?_
          refine OwnW.iload (pc' := 152) at_150 rfl rfl ?_
          have F271 := (Fc252_0.keep K264 (ninS (by omega : @Ne Nat (ad217_0 + 2) (ad217_0 + 1)) (ninS (by omega : @Ne Nat (ad217_0 + 2) (ad217_1 + 1)) (ninS (by omega : @Ne Nat (ad217_0 + 2) (ad217_2 + 1)) nin0))))
          refine OwnW.callV0 (a0 := a0) (pc' := 155) (W := 0) (k' := 10) (n' := 21) (argsL := [(.int (1 : Int32)), (.int (1 : Int32))]) (rest := []) (St' := [(.long (f6_11 ad216 ad217_0 (ad217_0 + 1) (ad217_0 + 2) kc217_0 kc217_1 (0 : Int64) lo2))]) at_152 (hw _ (List.mem_of_getElem? (i := 36) rfl)) (hw _ (List.mem_of_getElem? (i := 37) rfl)) (hw _ (List.mem_of_getElem? (i := 39) rfl)) (hw _ (List.mem_of_getElem? (i := 38) rfl)) (hw _ (List.mem_of_getElem? (i := 2) rfl)) (hw _ (List.mem_of_getElem? (i := 40) rfl)) (by decide) F268 (rm6_11 l Z a0 hw ad216 ad217_0 (ad217_0 + 1) (ad217_0 + 2) kc217_0 kc217_1 (0 : Int64) lo2 h264 n0 F266 F267 F271) (by decide) (by decide) rfl rfl (by decide) (by decide) rfl pd_28II29J rfl rfl rfl (Nat.le_of_ble_eq_true rfl) rfl rfl ?_
          refine OwnW.lload (pc' := 157) at_155 rfl rfl ?_
          refine OwnW.lcmp (pc' := 158) at_157 rfl ?_
          refine OwnW.ifcN (pc' := 161) at_158 ((if0 _ _).trans (teq ((lw_eq _ _).mpr rfl)).2) rfl ?_
          refine OwnW.aload (pc' := 163) at_161 rfl (rfl) rfl ?_
          refine OwnW.iload (pc' := 165) at_163 rfl rfl ?_
          refine OwnW.iload (pc' := 167) at_165 rfl rfl ?_
          have F272 := (Fc252_1.keep K264 (ninS (by omega : @Ne Nat (ad217_1 + 2) (ad217_0 + 1)) (ninS (by omega : @Ne Nat (ad217_1 + 2) (ad217_1 + 1)) (ninS (by omega : @Ne Nat (ad217_1 + 2) (ad217_2 + 1)) nin0))))
          refine OwnW.callV0 (a0 := a0) (pc' := 170) (W := 0) (k' := 10) (n' := 21) (argsL := [(.int (1 : Int32)), (.int (1 : Int32))]) (rest := []) (St' := [(.long (f7_11 ad216 ad217_1 (ad217_1 + 1) (ad217_1 + 2) kc217_2 kc217_3 (9223372036854775807 : Int64) up2))]) at_167 (hw _ (List.mem_of_getElem? (i := 41) rfl)) (hw _ (List.mem_of_getElem? (i := 42) rfl)) (hw _ (List.mem_of_getElem? (i := 44) rfl)) (hw _ (List.mem_of_getElem? (i := 43) rfl)) (hw _ (List.mem_of_getElem? (i := 2) rfl)) (hw _ (List.mem_of_getElem? (i := 45) rfl)) (by decide) F268 (rm7_11 l Z a0 hw ad216 ad217_1 (ad217_1 + 1) (ad217_1 + 2) kc217_2 kc217_3 (9223372036854775807 : Int64) up2 h264 n0 F269 F270 F272) (by decide) (by decide) rfl rfl (by decide) (by decide) rfl pd_28II29J rfl rfl rfl (Nat.le_of_ble_eq_true rfl) rfl rfl ?_
          refine OwnW.lload (pc' := 172) at_170 rfl rfl ?_
          refine OwnW.lcmp (pc' := 173) at_172 rfl ?_
          refine OwnW.ifcN (pc' := 176) at_173 ((if0 _ _).trans (teq ((lw_eq _ _).mpr rfl)).2) rfl ?_
          refine OwnW.iconst (pc' := 177) (v := (1 : Int32)) at_176 rfl rfl ?_
          refine OwnW.goto (pc' := 181) at_177 (by decide) (by decide) ?_
          exact OwnW.retN (t := .boolean) at_181 rfl (by simp) rfl (by decide) (by decide) (rfl)
      ·
        show GoB0 l Z n0 OwnW.One1 h0 0 0 32 #[.val (.int sel), .val (.long est), .second, .val (.long lo1), .second, .val (.long up1), .second, .val (.long lo2), .second, .val (.long up2), .second, .val (.int (0 : Int32)), .val (.int (1 : Int32)), .val (.int (1 : Int32)), .unset, .unset, .unset, .unset, .unset] [(.int (2 : Int32)), (.int (2 : Int32))]
        refine OwnW.iadd (pc' := 33) at_32 rfl ?_
        show GoB0 l Z n0 OwnW.One1 h0 0 0 33 #[.val (.int sel), .val (.long est), .second, .val (.long lo1), .second, .val (.long up1), .second, .val (.long lo2), .second, .val (.long up2), .second, .val (.int (0 : Int32)), .val (.int (1 : Int32)), .val (.int (1 : Int32)), .unset, .unset, .unset, .unset, .unset] [(.int (4 : Int32))]
        refine OwnW.iconst (pc' := 34) (v := (3 : Int32)) at_33 rfl rfl ?_
        refine OwnW.iand (pc' := 35) at_34 rfl ?_
        show GoB0 l Z n0 OwnW.One1 h0 0 0 35 #[.val (.int sel), .val (.long est), .second, .val (.long lo1), .second, .val (.long up1), .second, .val (.long lo2), .second, .val (.long up2), .second, .val (.int (0 : Int32)), .val (.int (1 : Int32)), .val (.int (1 : Int32)), .unset, .unset, .unset, .unset, .unset] [(.int (0 : Int32))]
        refine OwnW.istore (pc' := 37) (L' := #[.val (.int sel), .val (.long est), .second, .val (.long lo1), .second, .val (.long up1), .second, .val (.long lo2), .second, .val (.long up2), .second, .val (.int (0 : Int32)), .val (.int (1 : Int32)), .val (.int (1 : Int32)), .val (.int (0 : Int32)), .unset, .unset, .unset, .unset]) at_35 rfl rfl ?_
        refine OwnW.iload (pc' := 39) at_37 rfl rfl ?_
        refine OwnW.iconst (pc' := 40) (v := (1 : Int32)) at_39 rfl rfl ?_
        refine OwnW.ishr (pc' := 41) at_40 rfl ?_
        show GoB0 l Z n0 OwnW.One1 h0 0 0 41 #[.val (.int sel), .val (.long est), .second, .val (.long lo1), .second, .val (.long up1), .second, .val (.long lo2), .second, .val (.long up2), .second, .val (.int (0 : Int32)), .val (.int (1 : Int32)), .val (.int (1 : Int32)), .val (.int (0 : Int32)), .unset, .unset, .unset, .unset] [(.int (0 : Int32))]
        refine OwnW.istore (pc' := 43) (L' := #[.val (.int sel), .val (.long est), .second, .val (.long lo1), .second, .val (.long up1), .second, .val (.long lo2), .second, .val (.long up2), .second, .val (.int (0 : Int32)), .val (.int (1 : Int32)), .val (.int (1 : Int32)), .val (.int (0 : Int32)), .val (.int (0 : Int32)), .unset, .unset, .unset]) at_41 rfl rfl ?_
        refine OwnW.iload (pc' := 45) at_43 rfl rfl ?_
        refine OwnW.iconst (pc' := 46) (v := (1 : Int32)) at_45 rfl rfl ?_
        refine OwnW.iand (pc' := 47) at_46 rfl ?_
        show GoB0 l Z n0 OwnW.One1 h0 0 0 47 #[.val (.int sel), .val (.long est), .second, .val (.long lo1), .second, .val (.long up1), .second, .val (.long lo2), .second, .val (.long up2), .second, .val (.int (0 : Int32)), .val (.int (1 : Int32)), .val (.int (1 : Int32)), .val (.int (0 : Int32)), .val (.int (0 : Int32)), .unset, .unset, .unset] [(.int (0 : Int32))]
        refine OwnW.istore (pc' := 49) (L' := #[.val (.int sel), .val (.long est), .second, .val (.long lo1), .second, .val (.long up1), .second, .val (.long lo2), .second, .val (.long up2), .second, .val (.int (0 : Int32)), .val (.int (1 : Int32)), .val (.int (1 : Int32)), .val (.int (0 : Int32)), .val (.int (0 : Int32)), .val (.int (0 : Int32)), .unset, .unset]) at_47 rfl rfl ?_
        refine OwnW.iloadN (pc' := 50) at_49 rfl rfl ?_
        refine OwnW.bipush (pc' := 52) (v := (16 : Int32)) at_50 rfl rfl ?_
        refine OwnW.iand (pc' := 53) at_52 rfl ?_
        suffices J53_61 : ∀ (sb : Int32), sb = (if (sel &&& (16 : Int32)) = (0 : Int32) then (0 : Int32) else (1 : Int32)) → GoB0 l Z n0 OwnW.One1 h0 0 0 61 #[.val (.int sel), .val (.long est), .second, .val (.long lo1), .second, .val (.long up1), .second, .val (.long lo2), .second, .val (.long up2), .second, .val (.int (0 : Int32)), .val (.int (1 : Int32)), .val (.int (1 : Int32)), .val (.int (0 : Int32)), .val (.int (0 : Int32)), .val (.int (0 : Int32)), .unset, .unset] [(.int sb)] by
          by_cases hc53 : (sel &&& (16 : Int32)) = (0 : Int32)
          ·
            refine OwnW.ifcY (pc' := 60) at_53 ((if0 _ _).trans (teq hc53).1) (by decide) (by decide) ?_
            refine OwnW.iconst (pc' := 61) (v := (0 : Int32)) at_60 rfl rfl ?_
            exact J53_61 _ (by first | simp only [if_pos hc53] | rfl)
          ·
            refine OwnW.ifcN (pc' := 56) at_53 ((if0 _ _).trans (feq hc53).1) rfl ?_
            refine OwnW.iconst (pc' := 57) (v := (1 : Int32)) at_56 rfl rfl ?_
            refine OwnW.goto (pc' := 61) at_57 (by decide) (by decide) ?_
            exact J53_61 _ (by first | simp only [if_neg hc53] | rfl)
        intro sb hsb
        refine OwnW.istore (pc' := 63) (L' := #[.val (.int sel), .val (.long est), .second, .val (.long lo1), .second, .val (.long up1), .second, .val (.long lo2), .second, .val (.long up2), .second, .val (.int (0 : Int32)), .val (.int (1 : Int32)), .val (.int (1 : Int32)), .val (.int (0 : Int32)), .val (.int (0 : Int32)), .val (.int (0 : Int32)), .val (.int sb), .unset]) at_61 rfl rfl ?_
        refine OwnW.newO (a0 := a0) (pc' := 66) (k' := 1) (n' := 3) at_63 (hw _ (List.mem_of_getElem? (i := 0) rfl)) (hw _ (List.mem_of_getElem? (i := 1) rfl)) (hw _ (List.mem_of_getElem? (i := 2) rfl)) rfl rfl (by decide) (by decide) rfl ?_
        intro h273 ad273 g273 E273 A273 D273
        have ge_ad273 : n0 ≤ ad273 := Nat.le_trans Z0 (Nat.le_of_eq g273.symm)
        have sz_ad273 : n0 ≤ h273.size := Nat.le_trans Z0 E273.1
        have F273_lower : Fld Z h273 ad273 "com/example/parley/parley/treesearch/ChildBounds" "lower" "[[J" .null := D273 (Or.inr (hw _ (List.mem_of_getElem? (i := 13) rfl))) (ty := (.array (.array .long))) (by decide)
        have F273_upper : Fld Z h273 ad273 "com/example/parley/parley/treesearch/ChildBounds" "upper" "[[J" .null := D273 (Or.inr (hw _ (List.mem_of_getElem? (i := 15) rfl))) (ty := (.array (.array .long))) (by decide)
        have F273_assignments : Fld Z h273 ad273 "com/example/parley/parley/treesearch/ChildBounds" "assignments" "[[Lcom/example/parley/parley/treesearch/SubtreeAssignment;" .null := D273 (Or.inr (hw _ (List.mem_of_getElem? (i := 20) rfl))) (ty := (.array (.array (.object "com/example/parley/parley/treesearch/SubtreeAssignment")))) (by decide)
        refine OwnW.dup (pc' := 67) at_66 rfl rfl ?_
        refine OwnW.iconst (pc' := 68) (v := (2 : Int32)) at_67 rfl rfl ?_
        refine OwnW.iconst (pc' := 69) (v := (2 : Int32)) at_68 rfl rfl ?_
        refine OwnW.callI (a0 := a0) (pc' := 72) (W := 1) (k' := 10) (n' := 21) (argsL := [(.int (2 : Int32)), (.int (2 : Int32))]) (rest := [(.ref ad273)]) at_69 rfl (hw _ (List.mem_of_getElem? (i := 3) rfl)) (hw _ (List.mem_of_getElem? (i := 4) rfl)) (hw _ (List.mem_of_getElem? (i := 2) rfl)) (hw _ (List.mem_of_getElem? (i := 5) rfl)) (by decide) (rm1 l Z a0 hw ad273 h273 n0 sz_ad273 ge_ad273 A273 F273_lower F273_upper F273_assignments) (by decide) (by decide) rfl rfl (by decide) (by decide) rfl pd_28II29V rfl rfl rfl (Nat.le_of_ble_eq_true rfl) rfl ?_
        rintro h274 v274 ⟨ad274_0, ad274_1, ad274_2, kc274_0, kc274_1, kc274_2, kc274_3, kc274_4, kc274_5, rfl, K274, gl274_0, gl274_1, gl274_2, nn274_0_1, nn274_0_2, nn274_1_2, pp274_0, pp274_1, Fc274_0, Fc274_1, Fc274_2, Fc274_3, Fc274_4, Fc274_5, Fc274_6, Fc274_7, Fc274_8, Fc274_9, Fc274_10, Fc274_11, Fc274_12, Fc274_13⟩
        have lt_ad273_ad274_0 : @LT.lt Nat _ ad273 ad274_0 := Nat.lt_of_lt_of_le (A273).lt gl274_0
        have ge_ad274_0 : n0 ≤ ad274_0 := Nat.le_trans sz_ad273 gl274_0
        have lt_ad273_ad274_1 : @LT.lt Nat _ ad273 ad274_1 := Nat.lt_of_lt_of_le (A273).lt gl274_1
        have ge_ad274_1 : n0 ≤ ad274_1 := Nat.le_trans sz_ad273 gl274_1
        have lt_ad273_ad274_2 : @LT.lt Nat _ ad273 ad274_2 := Nat.lt_of_lt_of_le (A273).lt gl274_2
        have ge_ad274_2 : n0 ≤ ad274_2 := Nat.le_trans sz_ad273 gl274_2
        have sz275 : n0 ≤ h274.size := Nat.le_trans sz_ad273 K274.1
        show GoB0 l Z n0 OwnW.One1 h274 10 21 72 #[.val (.int sel), .val (.long est), .second, .val (.long lo1), .second, .val (.long up1), .second, .val (.long lo2), .second, .val (.long up2), .second, .val (.int (0 : Int32)), .val (.int (1 : Int32)), .val (.int (1 : Int32)), .val (.int (0 : Int32)), .val (.int (0 : Int32)), .val (.int (0 : Int32)), .val (.int sb), .unset] [(.ref ad273)]
        refine OwnW.astore (pc' := 74) (L' := #[.val (.int sel), .val (.long est), .second, .val (.long lo1), .second, .val (.long up1), .second, .val (.long lo2), .second, .val (.long up2), .second, .val (.int (0 : Int32)), .val (.int (1 : Int32)), .val (.int (1 : Int32)), .val (.int (0 : Int32)), .val (.int (0 : Int32)), .val (.int (0 : Int32)), .val (.int sb), .val (.ref ad273)]) at_72 (rfl) rfl rfl ?_
        refine OwnW.iload (pc' := 76) at_74 rfl rfl ?_
        by_cases hc76 : sb = (0 : Int32)
        ·
          refine OwnW.ifcY (pc' := 92) at_76 ((if0 _ _).trans (teq hc76).1) (by decide) (by decide) ?_
          refine OwnW.aload (pc' := 94) at_92 rfl (rfl) rfl ?_
          refine OwnW.iload (pc' := 96) at_94 rfl rfl ?_
          refine OwnW.iload (pc' := 98) at_96 rfl rfl ?_
          refine OwnW.lload (pc' := 100) at_98 rfl rfl ?_
          refine OwnW.lload (pc' := 102) at_100 rfl rfl ?_
          refine OwnW.aconstNull (pc' := 103) at_102 rfl ?_
          refine OwnW.callV (a0 := a0) (pc' := 106) (W := 0) (k' := 10) (n' := 21) (argsL := [(.int (0 : Int32)), (.int (0 : Int32)), (.long lo2), (.long up2), .null]) (rest := []) at_103 (hw _ (List.mem_of_getElem? (i := 26) rfl)) (hw _ (List.mem_of_getElem? (i := 27) rfl)) (hw _ (List.mem_of_getElem? (i := 29) rfl)) (hw _ (List.mem_of_getElem? (i := 28) rfl)) (hw _ (List.mem_of_getElem? (i := 2) rfl)) (hw _ (List.mem_of_getElem? (i := 30) rfl)) (by decide) Fc274_0 (rm4_00 l Z a0 hw ad273 lo2 up2 ad274_0 (ad274_0 + 1) (ad274_0 + 2) kc274_0 kc274_1 (0 : Int64) (0 : Int64) ad274_1 (ad274_1 + 1) (ad274_1 + 2) kc274_2 kc274_3 (9223372036854775807 : Int64) (9223372036854775807 : Int64) ad274_2 (ad274_2 + 1) (ad274_2 + 2) kc274_4 kc274_5 h274 n0 sz275 (Nat.le_trans ge_ad274_0 (Nat.le_add_right _ _)) (Nat.le_trans ge_ad274_1 (Nat.le_add_right _ _)) (Nat.le_trans ge_ad274_2 (Nat.le_add_right _ _)) Fc274_0 Fc274_1 Fc274_4 Fc274_5 Fc274_2 Fc274_7 Fc274_8 Fc274_3 Fc274_10 Fc274_11 (by omega : @Ne Nat (ad274_0 + 1) ad274_1) (by omega : @Ne Nat (ad274_0 + 1) (ad274_1 + 1)) (by omega : @Ne Nat (ad274_0 + 1) ad274_2) (by omega : @Ne Nat (ad274_0 + 1) (ad274_2 + 1)) (by omega : @Ne Nat (ad274_0 + 1) ad273) (by omega : @Ne Nat (ad274_0 + 1) ad274_0) (by omega : @Ne Nat (ad274_1 + 1) ad274_2) (by omega : @Ne Nat (ad274_1 + 1) (ad274_2 + 1)) (by omega : @Ne Nat (ad274_1 + 1) ad273) (by omega : @Ne Nat (ad274_1 + 1) ad274_0) (by omega : @Ne Nat (ad274_1 + 1) ad274_1) (by omega : @Ne Nat (ad274_2 + 1) ad273) (by omega : @Ne Nat (ad274_2 + 1) ad274_0) (by omega : @Ne Nat (ad274_2 + 1) ad274_1) (by omega : @Ne Nat (ad274_2 + 1) ad274_2)) (by decide) (by decide) rfl rfl (by decide) (by decide) rfl pd_28IIJJLcom2fexample2fparley2fparley2ftreesearch2fSubtreeAssignment3b29V rfl rfl rfl (Nat.le_of_ble_eq_true rfl) rfl ?_
          rintro h276 v276 ⟨rfl, K276, Fc276_0, Fc276_1, Fc276_2⟩
          have sz277 : n0 ≤ h276.size := Nat.le_trans sz275 K276.1
          show GoB0 l Z n0 OwnW.One1 h276 10 21 106 #[.val (.int sel), .val (.long est), .second, .val (.long lo1), .second, .val (.long up1), .second, .val (.long lo2), .second, .val (.long up2), .second, .val (.int (0 : Int32)), .val (.int (1 : Int32)), .val (.int (1 : Int32)), .val (.int (0 : Int32)), .val (.int (0 : Int32)), .val (.int (0 : Int32)), .val (.int sb), .val (.ref ad273)] []
          refine OwnW.aload (pc' := 108) at_106 rfl (rfl) rfl ?_
          refine OwnW.iload (pc' := 110) at_108 rfl rfl ?_
          refine OwnW.iload (pc' := 112) at_110 rfl rfl ?_
          refine OwnW.lloadN (pc' := 113) at_112 rfl rfl ?_
          have F278 := (Fc274_0.keep K276)
          have F279 := (Fc274_1.keep K276 (ninS (by omega : @Ne Nat ad273 (ad274_0 + 1)) (ninS (by omega : @Ne Nat ad273 (ad274_1 + 1)) (ninS (by omega : @Ne Nat ad273 (ad274_2 + 1)) nin0))))
          have F280 := (Fc274_4.keep K276 (ninS (by omega : @Ne Nat ad274_0 (ad274_0 + 1)) (ninS (by omega : @Ne Nat ad274_0 (ad274_1 + 1)) (ninS (by omega : @Ne Nat ad274_0 (ad274_2 + 1)) nin0))))
          have F281 := (Fc274_2.keep K276 (ninS (by omega : @Ne Nat ad273 (ad274_0 + 1)) (ninS (by omega : @Ne Nat ad273 (ad274_1 + 1)) (ninS (by omega : @Ne Nat ad273 (ad274_2 + 1)) nin0))))
          have F282 := (Fc274_7.keep K276 (ninS (by omega : @Ne Nat ad274_1 (ad274_0 + 1)) (ninS (by omega : @Ne Nat ad274_1 (ad274_1 + 1)) (ninS (by omega : @Ne Nat ad274_1 (ad274_2 + 1)) nin0))))
          have F283 := (Fc274_3.keep K276 (ninS (by omega : @Ne Nat ad273 (ad274_0 + 1)) (ninS (by omega : @Ne Nat ad273 (ad274_1 + 1)) (ninS (by omega : @Ne Nat ad273 (ad274_2 + 1)) nin0))))
          have F284 := (Fc274_10.keep K276 (ninS (by omega : @Ne Nat ad274_2 (ad274_0 + 1)) (ninS (by omega : @Ne Nat ad274_2 (ad274_1 + 1)) (ninS (by omega : @Ne Nat ad274_2 (ad274_2 + 1)) nin0))))
          refine OwnW.callV (a0 := a0) (pc' := 116) (W := 0) (k' := 10) (n' := 21) (argsL := [(.int (0 : Int32)), (.int (1 : Int32)), (.long est)]) (rest := []) at_113 (hw _ (List.mem_of_getElem? (i := 31) rfl)) (hw _ (List.mem_of_getElem? (i := 32) rfl)) (hw _ (List.mem_of_getElem? (i := 34) rfl)) (hw _ (List.mem_of_getElem? (i := 33) rfl)) (hw _ (List.mem_of_getElem? (i := 2) rfl)) (hw _ (List.mem_of_getElem? (i := 35) rfl)) (by decide) F278 (rm5_01 l Z a0 hw ad273 est ad274_0 (ad274_0 + 1) (ad274_0 + 2) kc274_0 kc274_1 lo2 (0 : Int64) ad274_1 (ad274_1 + 1) (ad274_1 + 2) kc274_2 kc274_3 up2 (9223372036854775807 : Int64) ad274_2 (ad274_2 + 1) (ad274_2 + 2) kc274_4 kc274_5 h276 n0 sz277 (Nat.le_trans ge_ad274_0 (Nat.le_add_right _ _)) (Nat.le_trans ge_ad274_1 (Nat.le_add_right _ _)) (Nat.le_trans ge_ad274_2 (Nat.le_add_right _ _)) F278 F279 F280 Fc276_0 F281 F282 Fc276_1 F283 F284 Fc276_2 (by omega : @Ne Nat (ad274_0 + 1) ad274_1) (by omega : @Ne Nat (ad274_0 + 1) (ad274_1 + 1)) (by omega : @Ne Nat (ad274_0 + 1) ad274_2) (by omega : @Ne Nat (ad274_0 + 1) (ad274_2 + 1)) (by omega : @Ne Nat (ad274_0 + 1) ad273) (by omega : @Ne Nat (ad274_0 + 1) ad274_0) (by omega : @Ne Nat (ad274_1 + 1) ad274_2) (by omega : @Ne Nat (ad274_1 + 1) (ad274_2 + 1)) (by omega : @Ne Nat (ad274_1 + 1) ad273) (by omega : @Ne Nat (ad274_1 + 1) ad274_0) (by omega : @Ne Nat (ad274_1 + 1) ad274_1) (by omega : @Ne Nat (ad274_2 + 1) ad273) (by omega : @Ne Nat (ad274_2 + 1) ad274_0) (by omega : @Ne Nat (ad274_2 + 1) ad274_1) (by omega : @Ne Nat (ad274_2 + 1) ad274_2)) (by decide) (by decide) rfl rfl (by decide) (by decide) rfl pd_28IIJ29V rfl rfl rfl (Nat.le_of_ble_eq_true rfl) rfl ?_
          rintro h285 v285 ⟨rfl, K285, Fc285_0, Fc285_1, Fc285_2⟩
          have sz286 : n0 ≤ h285.size := Nat.le_trans sz277 K285.1
          show GoB0 l Z n0 OwnW.One1 h285 10 21 116 #[.val (.int sel), .val (.long est), .second, .val (.long lo1), .second, .val (.long up1), .second, .val (.long lo2), .second, .val (.long up2), .second, .val (.int (0 : Int32)), .val (.int (1 : Int32)), .val (.int (1 : Int32)), .val (.int (0 : Int32)), .val (.int (0 : Int32)), .val (.int (0 : Int32)), .val (.int sb), .val (.ref ad273)] []
          refine OwnW.aload (pc' := 118) at_116 rfl (rfl) rfl ?_
          refine OwnW.iload (pc' := 120) at_118 rfl rfl ?_
          refine OwnW.iload (pc' := 122) at_120 rfl rfl ?_
          have F287 := (F279.keep K285 (ninS (by omega : @Ne Nat ad273 (ad274_0 + 1)) (ninS (by omega : @Ne Nat ad273 (ad274_1 + 1)) (ninS (by omega : @Ne Nat ad273 (ad274_2 + 1)) nin0))))
          have F288 := (F280.keep K285 (ninS (by omega : @Ne Nat ad274_0 (ad274_0 + 1)) (ninS (by omega : @Ne Nat ad274_0 (ad274_1 + 1)) (ninS (by omega : @Ne Nat ad274_0 (ad274_2 + 1)) nin0))))
          have F289 := (F278.keep K285)
          refine OwnW.callV0 (a0 := a0) (pc' := 125) (W := 0) (k' := 10) (n' := 21) (argsL := [(.int (0 : Int32)), (.int (1 : Int32))]) (rest := []) (St' := [(.long (f6_01 ad273 ad274_0 (ad274_0 + 1) (ad274_0 + 2) kc274_0 kc274_1 lo2 est))]) at_122 (hw _ (List.mem_of_getElem? (i := 36) rfl)) (hw _ (List.mem_of_getElem? (i := 37) rfl)) (hw _ (List.mem_of_getElem? (i := 39) rfl)) (hw _ (List.mem_of_getElem? (i := 38) rfl)) (hw _ (List.mem_of_getElem? (i := 2) rfl)) (hw _ (List.mem_of_getElem? (i := 40) rfl)) (by decide) F289 (rm6_01 l Z a0 hw ad273 ad274_0 (ad274_0 + 1) (ad274_0 + 2) kc274_0 kc274_1 lo2 est h285 n0 F287 F288 Fc285_0) (by decide) (by decide) rfl rfl (by decide) (by decide) rfl pd_28II29J rfl rfl rfl (Nat.le_of_ble_eq_true rfl) rfl rfl ?_
          refine OwnW.lloadN (pc' := 126) at_125 rfl rfl ?_
          refine OwnW.lcmp (pc' := 127) at_126 rfl ?_
          refine OwnW.ifcN (pc' := 130) at_127 ((if0 _ _).trans (teq ((lw_eq _ _).mpr rfl)).2) rfl ?_
          refine OwnW.aload (pc' := 132) at_130 rfl (rfl) rfl ?_
          refine OwnW.iload (pc' := 134) at_132 rfl rfl ?_
          refine OwnW.iload (pc' := 136) at_134 rfl rfl ?_
          have F290 := (F281.keep K285 (ninS (by omega : @Ne Nat ad273 (ad274_0 + 1)) (ninS (by omega : @Ne Nat ad273 (ad274_1 + 1)) (ninS (by omega : @Ne Nat ad273 (ad274_2 + 1)) nin0))))
          have F291 := (F282.keep K285 (ninS (by omega : @Ne Nat ad274_1 (ad274_0 + 1)) (ninS (by omega : @Ne Nat ad274_1 (ad274_1 + 1)) (ninS (by omega : @Ne Nat ad274_1 (ad274_2 + 1)) nin0))))
          refine OwnW.callV0 (a0 := a0) (pc' := 139) (W := 0) (k' := 10) (n' := 21) (argsL := [(.int (0 : Int32)), (.int (1 : Int32))]) (rest := []) (St' := [(.long (f7_01 ad273 ad274_1 (ad274_1 + 1) (ad274_1 + 2) kc274_2 kc274_3 up2 (9223372036854775807 : Int64)))]) at_136 (hw _ (List.mem_of_getElem? (i := 41) rfl)) (hw _ (List.mem_of_getElem? (i := 42) rfl)) (hw _ (List.mem_of_getElem? (i := 44) rfl)) (hw _ (List.mem_of_getElem? (i := 43) rfl)) (hw _ (List.mem_of_getElem? (i := 2) rfl)) (hw _ (List.mem_of_getElem? (i := 45) rfl)) (by decide) F289 (rm7_01 l Z a0 hw ad273 ad274_1 (ad274_1 + 1) (ad274_1 + 2) kc274_2 kc274_3 up2 (9223372036854775807 : Int64) h285 n0 F290 F291 Fc285_1) (by decide) (by decide) rfl rfl (by decide) (by decide) rfl pd_28II29J rfl rfl rfl (Nat.le_of_ble_eq_true rfl) rfl rfl ?_
          refine OwnW.ldc2J (a0 := a0) (pc' := 142) (v := (9223372036854775807 : Int64)) at_139 (hw _ (List.mem_of_getElem? (i := 46) rfl)) rfl ?_
          refine OwnW.lcmp (pc' := 143) at_142 rfl ?_
          refine OwnW.ifcN (pc' := 146) at_143 ((if0 _ _).trans (teq ((lw_eq _ _).mpr rfl)).2) rfl ?_
          refine OwnW.aload (pc' := 148) at_146 rfl (rfl) rfl ?_
          refine OwnW.iload (pc' := 150) at_148 rfl rfl ?_
          refine OwnW.iload (pc' := 152) at_150 rfl rfl ?_
          refine OwnW.callV0 (a0 := a0) (pc' := 155) (W := 0) (k' := 10) (n' := 21) (argsL := [(.int (0 : Int32)), (.int (0 : Int32))]) (rest := []) (St' := [(.long (f6_00 ad273 ad274_0 (ad274_0 + 1) (ad274_0 + 2) kc274_0 kc274_1 lo2 est))]) at_152 (hw _ (List.mem_of_getElem? (i := 36) rfl)) (hw _ (List.mem_of_getElem? (i := 37) rfl)) (hw _ (List.mem_of_getElem? (i := 39) rfl)) (hw _ (List.mem_of_getElem? (i := 38) rfl)) (hw _ (List.mem_of_getElem? (i := 2) rfl)) (hw _ (List.mem_of_getElem? (i := 40) rfl)) (by decide) F289 (rm6_00 l Z a0 hw ad273 ad274_0 (ad274_0 + 1) (ad274_0 + 2) kc274_0 kc274_1 lo2 est h285 n0 F287 F288 Fc285_0) (by decide) (by decide) rfl rfl (by decide) (by decide) rfl pd_28II29J rfl rfl rfl (Nat.le_of_ble_eq_true rfl) rfl rfl ?_
          refine OwnW.lload (pc' := 157) at_155 rfl rfl ?_
          refine OwnW.lcmp (pc' := 158) at_157 rfl ?_
          refine OwnW.ifcN (pc' := 161) at_158 ((if0 _ _).trans (teq ((lw_eq _ _).mpr rfl)).2) rfl ?_
          refine OwnW.aload (pc' := 163) at_161 rfl (rfl) rfl ?_
          refine OwnW.iload (pc' := 165) at_163 rfl rfl ?_
          refine OwnW.iload (pc' := 167) at_165 rfl rfl ?_
          refine OwnW.callV0 (a0 := a0) (pc' := 170) (W := 0) (k' := 10) (n' := 21) (argsL := [(.int (0 : Int32)), (.int (0 : Int32))]) (rest := []) (St' := [(.long (f7_00 ad273 ad274_1 (ad274_1 + 1) (ad274_1 + 2) kc274_2 kc274_3 up2 (9223372036854775807 : Int64)))]) at_167 (hw _ (List.mem_of_getElem? (i := 41) rfl)) (hw _ (List.mem_of_getElem? (i := 42) rfl)) (hw _ (List.mem_of_getElem? (i := 44) rfl)) (hw _ (List.mem_of_getElem? (i := 43) rfl)) (hw _ (List.mem_of_getElem? (i := 2) rfl)) (hw _ (List.mem_of_getElem? (i := 45) rfl)) (by decide) F289 (rm7_00 l Z a0 hw ad273 ad274_1 (ad274_1 + 1) (ad274_1 + 2) kc274_2 kc274_3 up2 (9223372036854775807 : Int64) h285 n0 F290 F291 Fc285_1) (by decide) (by decide) rfl rfl (by decide) (by decide) rfl pd_28II29J rfl rfl rfl (Nat.le_of_ble_eq_true rfl) rfl rfl ?_
          refine OwnW.lload (pc' := 172) at_170 rfl rfl ?_
          refine OwnW.lcmp (pc' := 173) at_172 rfl ?_
          refine OwnW.ifcN (pc' := 176) at_173 ((if0 _ _).trans (teq ((lw_eq _ _).mpr rfl)).2) rfl ?_
          refine OwnW.iconst (pc' := 177) (v := (1 : Int32)) at_176 rfl rfl ?_
          refine OwnW.goto (pc' := 181) at_177 (by decide) (by decide) ?_
          exact OwnW.retN (t := .boolean) at_181 rfl (by simp) rfl (by decide) (by decide) (rfl)
        ·
          refine OwnW.ifcN (pc' := 79) at_76 ((if0 _ _).trans (feq hc76).1) rfl ?_
          refine OwnW.aload (pc' := 81) at_79 rfl (rfl) rfl ?_
          refine OwnW.iload (pc' := 83) at_81 rfl rfl ?_
          refine OwnW.iload (pc' := 85) at_83 rfl rfl ?_
          refine OwnW.lloadN (pc' := 86) at_85 rfl rfl ?_
          refine OwnW.lload (pc' := 88) at_86 rfl rfl ?_
          refine OwnW.aconstNull (pc' := 89) at_88 rfl ?_
          refine OwnW.callV (a0 := a0) (pc' := 92) (W := 0) (k' := 10) (n' := 21) (argsL := [(.int (0 : Int32)), (.int (1 : Int32)), (.long lo1), (.long up1), .null]) (rest := []) at_89 (hw _ (List.mem_of_getElem? (i := 26) rfl)) (hw _ (List.mem_of_getElem? (i := 27) rfl)) (hw _ (List.mem_of_getElem? (i := 29) rfl)) (hw _ (List.mem_of_getElem? (i := 28) rfl)) (hw _ (List.mem_of_getElem? (i := 2) rfl)) (hw _ (List.mem_of_getElem? (i := 30) rfl)) (by decide) Fc274_0 (rm4_01 l Z a0 hw ad273 lo1 up1 ad274_0 (ad274_0 + 1) (ad274_0 + 2) kc274_0 kc274_1 (0 : Int64) (0 : Int64) ad274_1 (ad274_1 + 1) (ad274_1 + 2) kc274_2 kc274_3 (9223372036854775807 : Int64) (9223372036854775807 : Int64) ad274_2 (ad274_2 + 1) (ad274_2 + 2) kc274_4 kc274_5 h274 n0 sz275 (Nat.le_trans ge_ad274_0 (Nat.le_add_right _ _)) (Nat.le_trans ge_ad274_1 (Nat.le_add_right _ _)) (Nat.le_trans ge_ad274_2 (Nat.le_add_right _ _)) Fc274_0 Fc274_1 Fc274_4 Fc274_5 Fc274_2 Fc274_7 Fc274_8 Fc274_3 Fc274_10 Fc274_11 (by omega : @Ne Nat (ad274_0 + 1) ad274_1) (by omega : @Ne Nat (ad274_0 + 1) (ad274_1 + 1)) (by omega : @Ne Nat (ad274_0 + 1) ad274_2) (by omega : @Ne Nat (ad274_0 + 1) (ad274_2 + 1)) (by omega : @Ne Nat (ad274_0 + 1) ad273) (by omega : @Ne Nat (ad274_0 + 1) ad274_0) (by omega : @Ne Nat (ad274_1 + 1) ad274_2) (by omega : @Ne Nat (ad274_1 + 1) (ad274_2 + 1)) (by omega : @Ne Nat (ad274_1 + 1) ad273) (by omega : @Ne Nat (ad274_1 + 1) ad274_0) (by omega : @Ne Nat (ad274_1 + 1) ad274_1) (by omega : @Ne Nat (ad274_2 + 1) ad273) (by omega : @Ne Nat (ad274_2 + 1) ad274_0) (by omega : @Ne Nat (ad274_2 + 1) ad274_1) (by omega : @Ne Nat (ad274_2 + 1) ad274_2)) (by decide) (by decide) rfl rfl (by decide) (by decide) rfl pd_28IIJJLcom2fexample2fparley2fparley2ftreesearch2fSubtreeAssignment3b29V rfl rfl rfl (Nat.le_of_ble_eq_true rfl) rfl ?_
          rintro h292 v292 ⟨rfl, K292, Fc292_0, Fc292_1, Fc292_2⟩
          have sz293 : n0 ≤ h292.size := Nat.le_trans sz275 K292.1
          show GoB0 l Z n0 OwnW.One1 h292 10 21 92 #[.val (.int sel), .val (.long est), .second, .val (.long lo1), .second, .val (.long up1), .second, .val (.long lo2), .second, .val (.long up2), .second, .val (.int (0 : Int32)), .val (.int (1 : Int32)), .val (.int (1 : Int32)), .val (.int (0 : Int32)), .val (.int (0 : Int32)), .val (.int (0 : Int32)), .val (.int sb), .val (.ref ad273)] []
          refine OwnW.aload (pc' := 94) at_92 rfl (rfl) rfl ?_
          refine OwnW.iload (pc' := 96) at_94 rfl rfl ?_
          refine OwnW.iload (pc' := 98) at_96 rfl rfl ?_
          refine OwnW.lload (pc' := 100) at_98 rfl rfl ?_
          refine OwnW.lload (pc' := 102) at_100 rfl rfl ?_
          refine OwnW.aconstNull (pc' := 103) at_102 rfl ?_
          have F294 := (Fc274_0.keep K292)
          have F295 := (Fc274_1.keep K292 (ninS (by omega : @Ne Nat ad273 (ad274_0 + 1)) (ninS (by omega : @Ne Nat ad273 (ad274_1 + 1)) (ninS (by omega : @Ne Nat ad273 (ad274_2 + 1)) nin0))))
          have F296 := (Fc274_4.keep K292 (ninS (by omega : @Ne Nat ad274_0 (ad274_0 + 1)) (ninS (by omega : @Ne Nat ad274_0 (ad274_1 + 1)) (ninS (by omega : @Ne Nat ad274_0 (ad274_2 + 1)) nin0))))
          have F297 := (Fc274_2.keep K292 (ninS (by omega : @Ne Nat ad273 (ad274_0 + 1)) (ninS (by omega : @Ne Nat ad273 (ad274_1 + 1)) (ninS (by omega : @Ne Nat ad273 (ad274_2 + 1)) nin0))))
          have F298 := (Fc274_7.keep K292 (ninS (by omega : @Ne Nat ad274_1 (ad274_0 + 1)) (ninS (by omega : @Ne Nat ad274_1 (ad274_1 + 1)) (ninS (by omega : @Ne Nat ad274_1 (ad274_2 + 1)) nin0))))
          have F299 := (Fc274_3.keep K292 (ninS (by omega : @Ne Nat ad273 (ad274_0 + 1)) (ninS (by omega : @Ne Nat ad273 (ad274_1 + 1)) (ninS (by omega : @Ne Nat ad273 (ad274_2 + 1)) nin0))))
          have F300 := (Fc274_10.keep K292 (ninS (by omega : @Ne Nat ad274_2 (ad274_0 + 1)) (ninS (by omega : @Ne Nat ad274_2 (ad274_1 + 1)) (ninS (by omega : @Ne Nat ad274_2 (ad274_2 + 1)) nin0))))
          refine OwnW.callV (a0 := a0) (pc' := 106) (W := 0) (k' := 10) (n' := 21) (argsL := [(.int (0 : Int32)), (.int (0 : Int32)), (.long lo2), (.long up2), .null]) (rest := []) at_103 (hw _ (List.mem_of_getElem? (i := 26) rfl)) (hw _ (List.mem_of_getElem? (i := 27) rfl)) (hw _ (List.mem_of_getElem? (i := 29) rfl)) (hw _ (List.mem_of_getElem? (i := 28) rfl)) (hw _ (List.mem_of_getElem? (i := 2) rfl)) (hw _ (List.mem_of_getElem? (i := 30) rfl)) (by decide) F294 (rm4_00 l Z a0 hw ad273 lo2 up2 ad274_0 (ad274_0 + 1) (ad274_0 + 2) kc274_0 kc274_1 (0 : Int64) lo1 ad274_1 (ad274_1 + 1) (ad274_1 + 2) kc274_2 kc274_3 (9223372036854775807 : Int64) up1 ad274_2 (ad274_2 + 1) (ad274_2 + 2) kc274_4 kc274_5 h292 n0 sz293 (Nat.le_trans ge_ad274_0 (Nat.le_add_right _ _)) (Nat.le_trans ge_ad274_1 (Nat.le_add_right _ _)) (Nat.le_trans ge_ad274_2 (Nat.le_add_right _ _)) F294 F295 F296 Fc292_0 F297 F298 Fc292_1 F299 F300 Fc292_2 (by omega : @Ne Nat (ad274_0 + 1) ad274_1) (by omega : @Ne Nat (ad274_0 + 1) (ad274_1 + 1)) (by omega : @Ne Nat (ad274_0 + 1) ad274_2) (by omega : @Ne Nat (ad274_0 + 1) (ad274_2 + 1)) (by omega : @Ne Nat (ad274_0 + 1) ad273) (by omega : @Ne Nat (ad274_0 + 1) ad274_0) (by omega : @Ne Nat (ad274_1 + 1) ad274_2) (by omega : @Ne Nat (ad274_1 + 1) (ad274_2 + 1)) (by omega : @Ne Nat (ad274_1 + 1) ad273) (by omega : @Ne Nat (ad274_1 + 1) ad274_0) (by omega : @Ne Nat (ad274_1 + 1) ad274_1) (by omega : @Ne Nat (ad274_2 + 1) ad273) (by omega : @Ne Nat (ad274_2 + 1) ad274_0) (by omega : @Ne Nat (ad274_2 + 1) ad274_1) (by omega : @Ne Nat (ad274_2 + 1) ad274_2)) (by decide) (by decide) rfl rfl (by decide) (by decide) rfl pd_28IIJJLcom2fexample2fparley2fparley2ftreesearch2fSubtreeAssignment3b29V rfl rfl rfl (Nat.le_of_ble_eq_true rfl) rfl ?_
          rintro h301 v301 ⟨rfl, K301, Fc301_0, Fc301_1, Fc301_2⟩
          have sz302 : n0 ≤ h301.size := Nat.le_trans sz293 K301.1
          show GoB0 l Z n0 OwnW.One1 h301 10 21 106 #[.val (.int sel), .val (.long est), .second, .val (.long lo1), .second, .val (.long up1), .second, .val (.long lo2), .second, .val (.long up2), .second, .val (.int (0 : Int32)), .val (.int (1 : Int32)), .val (.int (1 : Int32)), .val (.int (0 : Int32)), .val (.int (0 : Int32)), .val (.int (0 : Int32)), .val (.int sb), .val (.ref ad273)] []
          refine OwnW.aload (pc' := 108) at_106 rfl (rfl) rfl ?_
          refine OwnW.iload (pc' := 110) at_108 rfl rfl ?_
          refine OwnW.iload (pc' := 112) at_110 rfl rfl ?_
          refine OwnW.lloadN (pc' := 113) at_112 rfl rfl ?_
          have F303 := (F294.keep K301)
          have F304 := (F295.keep K301 (ninS (by omega : @Ne Nat ad273 (ad274_0 + 1)) (ninS (by omega : @Ne Nat ad273 (ad274_1 + 1)) (ninS (by omega : @Ne Nat ad273 (ad274_2 + 1)) nin0))))
          have F305 := (F296.keep K301 (ninS (by omega : @Ne Nat ad274_0 (ad274_0 + 1)) (ninS (by omega : @Ne Nat ad274_0 (ad274_1 + 1)) (ninS (by omega : @Ne Nat ad274_0 (ad274_2 + 1)) nin0))))
          have F306 := (F297.keep K301 (ninS (by omega : @Ne Nat ad273 (ad274_0 + 1)) (ninS (by omega : @Ne Nat ad273 (ad274_1 + 1)) (ninS (by omega : @Ne Nat ad273 (ad274_2 + 1)) nin0))))
          have F307 := (F298.keep K301 (ninS (by omega : @Ne Nat ad274_1 (ad274_0 + 1)) (ninS (by omega : @Ne Nat ad274_1 (ad274_1 + 1)) (ninS (by omega : @Ne Nat ad274_1 (ad274_2 + 1)) nin0))))
          have F308 := (F299.keep K301 (ninS (by omega : @Ne Nat ad273 (ad274_0 + 1)) (ninS (by omega : @Ne Nat ad273 (ad274_1 + 1)) (ninS (by omega : @Ne Nat ad273 (ad274_2 + 1)) nin0))))
          have F309 := (F300.keep K301 (ninS (by omega : @Ne Nat ad274_2 (ad274_0 + 1)) (ninS (by omega : @Ne Nat ad274_2 (ad274_1 + 1)) (ninS (by omega : @Ne Nat ad274_2 (ad274_2 + 1)) nin0))))
          refine OwnW.callV (a0 := a0) (pc' := 116) (W := 0) (k' := 10) (n' := 21) (argsL := [(.int (0 : Int32)), (.int (1 : Int32)), (.long est)]) (rest := []) at_113 (hw _ (List.mem_of_getElem? (i := 31) rfl)) (hw _ (List.mem_of_getElem? (i := 32) rfl)) (hw _ (List.mem_of_getElem? (i := 34) rfl)) (hw _ (List.mem_of_getElem? (i := 33) rfl)) (hw _ (List.mem_of_getElem? (i := 2) rfl)) (hw _ (List.mem_of_getElem? (i := 35) rfl)) (by decide) F303 (rm5_01 l Z a0 hw ad273 est ad274_0 (ad274_0 + 1) (ad274_0 + 2) kc274_0 kc274_1 lo2 lo1 ad274_1 (ad274_1 + 1) (ad274_1 + 2) kc274_2 kc274_3 up2 up1 ad274_2 (ad274_2 + 1) (ad274_2 + 2) kc274_4 kc274_5 h301 n0 sz302 (Nat.le_trans ge_ad274_0 (Nat.le_add_right _ _)) (Nat.le_trans ge_ad274_1 (Nat.le_add_right _ _)) (Nat.le_trans ge_ad274_2 (Nat.le_add_right _ _)) F303 F304 F305 Fc301_0 F306 F307 Fc301_1 F308 F309 Fc301_2 (by omega : @Ne Nat (ad274_0 + 1) ad274_1) (by omega : @Ne Nat (ad274_0 + 1) (ad274_1 + 1)) (by omega : @Ne Nat (ad274_0 + 1) ad274_2) (by omega : @Ne Nat (ad274_0 + 1) (ad274_2 + 1)) (by omega : @Ne Nat (ad274_0 + 1) ad273) (by omega : @Ne Nat (ad274_0 + 1) ad274_0) (by omega : @Ne Nat (ad274_1 + 1) ad274_2) (by omega : @Ne Nat (ad274_1 + 1) (ad274_2 + 1)) (by omega : @Ne Nat (ad274_1 + 1) ad273) (by omega : @Ne Nat (ad274_1 + 1) ad274_0) (by omega : @Ne Nat (ad274_1 + 1) ad274_1) (by omega : @Ne Nat (ad274_2 + 1) ad273) (by omega : @Ne Nat (ad274_2 + 1) ad274_0) (by omega : @Ne Nat (ad274_2 + 1) ad274_1) (by omega : @Ne Nat (ad274_2 + 1) ad274_2)) (by decide) (by decide) rfl rfl (by decide) (by decide) rfl pd_28IIJ29V rfl rfl rfl (Nat.le_of_ble_eq_true rfl) rfl ?_
          rintro h310 v310 ⟨rfl, K310, Fc310_0, Fc310_1, Fc310_2⟩
          have sz311 : n0 ≤ h310.size := Nat.le_trans sz302 K310.1
          show GoB0 l Z n0 OwnW.One1 h310 10 21 116 #[.val (.int sel), .val (.long est), .second, .val (.long lo1), .second, .val (.long up1), .second, .val (.long lo2), .second, .val (.long up2), .second, .val (.int (0 : Int32)), .val (.int (1 : Int32)), .val (.int (1 : Int32)), .val (.int (0 : Int32)), .val (.int (0 : Int32)), .val (.int (0 : Int32)), .val (.int sb), .val (.ref ad273)] []
          refine OwnW.aload (pc' := 118) at_116 rfl (rfl) rfl ?_
          refine OwnW.iload (pc' := 120) at_118 rfl rfl ?_
          refine OwnW.iload (pc' := 122) at_120 rfl rfl ?_
          have F312 := (F304.keep K310 (ninS (by omega : @Ne Nat ad273 (ad274_0 + 1)) (ninS (by omega : @Ne Nat ad273 (ad274_1 + 1)) (ninS (by omega : @Ne Nat ad273 (ad274_2 + 1)) nin0))))
          have F313 := (F305.keep K310 (ninS (by omega : @Ne Nat ad274_0 (ad274_0 + 1)) (ninS (by omega : @Ne Nat ad274_0 (ad274_1 + 1)) (ninS (by omega : @Ne Nat ad274_0 (ad274_2 + 1)) nin0))))
          have F314 := (F303.keep K310)
          refine OwnW.callV0 (a0 := a0) (pc' := 125) (W := 0) (k' := 10) (n' := 21) (argsL := [(.int (0 : Int32)), (.int (1 : Int32))]) (rest := []) (St' := [(.long (f6_01 ad273 ad274_0 (ad274_0 + 1) (ad274_0 + 2) kc274_0 kc274_1 lo2 est))]) at_122 (hw _ (List.mem_of_getElem? (i := 36) rfl)) (hw _ (List.mem_of_getElem? (i := 37) rfl)) (hw _ (List.mem_of_getElem? (i := 39) rfl)) (hw _ (List.mem_of_getElem? (i := 38) rfl)) (hw _ (List.mem_of_getElem? (i := 2) rfl)) (hw _ (List.mem_of_getElem? (i := 40) rfl)) (by decide) F314 (rm6_01 l Z a0 hw ad273 ad274_0 (ad274_0 + 1) (ad274_0 + 2) kc274_0 kc274_1 lo2 est h310 n0 F312 F313 Fc310_0) (by decide) (by decide) rfl rfl (by decide) (by decide) rfl pd_28II29J rfl rfl rfl (Nat.le_of_ble_eq_true rfl) rfl rfl ?_
          refine OwnW.lloadN (pc' := 126) at_125 rfl rfl ?_
          refine OwnW.lcmp (pc' := 127) at_126 rfl ?_
          refine OwnW.ifcN (pc' := 130) at_127 ((if0 _ _).trans (teq ((lw_eq _ _).mpr rfl)).2) rfl ?_
          refine OwnW.aload (pc' := 132) at_130 rfl (rfl) rfl ?_
          refine OwnW.iload (pc' := 134) at_132 rfl rfl ?_
          refine OwnW.iload (pc' := 136) at_134 rfl rfl ?_
          have F315 := (F306.keep K310 (ninS (by omega : @Ne Nat ad273 (ad274_0 + 1)) (ninS (by omega : @Ne Nat ad273 (ad274_1 + 1)) (ninS (by omega : @Ne Nat ad273 (ad274_2 + 1)) nin0))))
          have F316 := (F307.keep K310 (ninS (by omega : @Ne Nat ad274_1 (ad274_0 + 1)) (ninS (by omega : @Ne Nat ad274_1 (ad274_1 + 1)) (ninS (by omega : @Ne Nat ad274_1 (ad274_2 + 1)) nin0))))
          refine OwnW.callV0 (a0 := a0) (pc' := 139) (W := 0) (k' := 10) (n' := 21) (argsL := [(.int (0 : Int32)), (.int (1 : Int32))]) (rest := []) (St' := [(.long (f7_01 ad273 ad274_1 (ad274_1 + 1) (ad274_1 + 2) kc274_2 kc274_3 up2 (9223372036854775807 : Int64)))]) at_136 (hw _ (List.mem_of_getElem? (i := 41) rfl)) (hw _ (List.mem_of_getElem? (i := 42) rfl)) (hw _ (List.mem_of_getElem? (i := 44) rfl)) (hw _ (List.mem_of_getElem? (i := 43) rfl)) (hw _ (List.mem_of_getElem? (i := 2) rfl)) (hw _ (List.mem_of_getElem? (i := 45) rfl)) (by decide) F314 (rm7_01 l Z a0 hw ad273 ad274_1 (ad274_1 + 1) (ad274_1 + 2) kc274_2 kc274_3 up2 (9223372036854775807 : Int64) h310 n0 F315 F316 Fc310_1) (by decide) (by decide) rfl rfl (by decide) (by decide) rfl pd_28II29J rfl rfl rfl (Nat.le_of_ble_eq_true rfl) rfl rfl ?_
          refine OwnW.ldc2J (a0 := a0) (pc' := 142) (v := (9223372036854775807 : Int64)) at_139 (hw _ (List.mem_of_getElem? (i := 46) rfl)) rfl ?_
          refine OwnW.lcmp (pc' := 143) at_142 rfl ?_
          refine OwnW.ifcN (pc' := 146) at_143 ((if0 _ _).trans (teq ((lw_eq _ _).mpr rfl)).2) rfl ?_
          refine OwnW.aload (pc' := 148) at_146 rfl (rfl) rfl ?_
          refine OwnW.iload (pc' := 150) at_148 rfl rfl ?_
          refine OwnW.iload (pc' := 152) at_150 rfl rfl ?_
          refine OwnW.callV0 (a0 := a0) (pc' := 155) (W := 0) (k' := 10) (n' := 21) (argsL := [(.int (0 : Int32)), (.int (0 : Int32))]) (rest := []) (St' := [(.long (f6_00 ad273 ad274_0 (ad274_0 + 1) (ad274_0 + 2) kc274_0 kc274_1 lo2 est))]) at_152 (hw _ (List.mem_of_getElem? (i := 36) rfl)) (hw _ (List.mem_of_getElem? (i := 37) rfl)) (hw _ (List.mem_of_getElem? (i := 39) rfl)) (hw _ (List.mem_of_getElem? (i := 38) rfl)) (hw _ (List.mem_of_getElem? (i := 2) rfl)) (hw _ (List.mem_of_getElem? (i := 40) rfl)) (by decide) F314 (rm6_00 l Z a0 hw ad273 ad274_0 (ad274_0 + 1) (ad274_0 + 2) kc274_0 kc274_1 lo2 est h310 n0 F312 F313 Fc310_0) (by decide) (by decide) rfl rfl (by decide) (by decide) rfl pd_28II29J rfl rfl rfl (Nat.le_of_ble_eq_true rfl) rfl rfl ?_
          refine OwnW.lload (pc' := 157) at_155 rfl rfl ?_
          refine OwnW.lcmp (pc' := 158) at_157 rfl ?_
          refine OwnW.ifcN (pc' := 161) at_158 ((if0 _ _).trans (teq ((lw_eq _ _).mpr rfl)).2) rfl ?_
          refine OwnW.aload (pc' := 163) at_161 rfl (rfl) rfl ?_
          refine OwnW.iload (pc' := 165) at_163 rfl rfl ?_
          refine OwnW.iload (pc' := 167) at_165 rfl rfl ?_
          refine OwnW.callV0 (a0 := a0) (pc' := 170) (W := 0) (k' := 10) (n' := 21) (argsL := [(.int (0 : Int32)), (.int (0 : Int32))]) (rest := []) (St' := [(.long (f7_00 ad273 ad274_1 (ad274_1 + 1) (ad274_1 + 2) kc274_2 kc274_3 up2 (9223372036854775807 : Int64)))]) at_167 (hw _ (List.mem_of_getElem? (i := 41) rfl)) (hw _ (List.mem_of_getElem? (i := 42) rfl)) (hw _ (List.mem_of_getElem? (i := 44) rfl)) (hw _ (List.mem_of_getElem? (i := 43) rfl)) (hw _ (List.mem_of_getElem? (i := 2) rfl)) (hw _ (List.mem_of_getElem? (i := 45) rfl)) (by decide) F314 (rm7_00 l Z a0 hw ad273 ad274_1 (ad274_1 + 1) (ad274_1 + 2) kc274_2 kc274_3 up2 (9223372036854775807 : Int64) h310 n0 F315 F316 Fc310_1) (by decide) (by decide) rfl rfl (by decide) (by decide) rfl pd_28II29J rfl rfl rfl (Nat.le_of_ble_eq_true rfl) rfl rfl ?_
          refine OwnW.lload (pc' := 172) at_170 rfl rfl ?_
          refine OwnW.lcmp (pc' := 173) at_172 rfl ?_
          refine OwnW.ifcN (pc' := 176) at_173 ((if0 _ _).trans (teq ((lw_eq _ _).mpr rfl)).2) rfl ?_
          refine OwnW.iconst (pc' := 177) (v := (1 : Int32)) at_176 rfl rfl ?_
          refine OwnW.goto (pc' := 181) at_177 (by decide) (by decide) ?_
          exact OwnW.retN (t := .boolean) at_181 rfl (by simp) rfl (by decide) (by decide) (rfl)
  ·
    show GoB0 l Z n0 OwnW.One1 h0 0 0 3 #[.val (.int sel), .val (.long est), .second, .val (.long lo1), .second, .val (.long up1), .second, .val (.long lo2), .second, .val (.long up2), .second, .unset, .unset, .unset, .unset, .unset, .unset, .unset, .unset] [(.int (1 : Int32))]
    refine OwnW.istore (pc' := 5) (L' := #[.val (.int sel), .val (.long est), .second, .val (.long lo1), .second, .val (.long up1), .second, .val (.long lo2), .second, .val (.long up2), .second, .val (.int (1 : Int32)), .unset, .unset, .unset, .unset, .unset, .unset, .unset]) at_3 rfl rfl ?_
    refine OwnW.iloadN (pc' := 6) at_5 rfl rfl ?_
    refine OwnW.iconst (pc' := 7) (v := (1 : Int32)) at_6 rfl rfl ?_
    refine OwnW.iushr (pc' := 8) at_7 rfl ?_
    refine OwnW.iconst (pc' := 9) (v := (1 : Int32)) at_8 rfl rfl ?_
    refine OwnW.iand (pc' := 10) at_9 rfl ?_
    obtain ⟨v, hv⟩ : ∃ z, z = (((sel.toUInt32 >>> ((1 : Int32) &&& 31).toUInt32).toInt32) &&& (1 : Int32)) := ⟨_, rfl⟩
    rw [← hv]
    show GoB0 l Z n0 OwnW.One1 h0 0 0 10 #[.val (.int sel), .val (.long est), .second, .val (.long lo1), .second, .val (.long up1), .second, .val (.long lo2), .second, .val (.long up2), .second, .val (.int (1 : Int32)), .unset, .unset, .unset, .unset, .unset, .unset, .unset] [(.int v)]
    rcases (own_v hv) with rfl | rfl
    ·
      show GoB0 l Z n0 OwnW.One1 h0 0 0 10 #[.val (.int sel), .val (.long est), .second, .val (.long lo1), .second, .val (.long up1), .second, .val (.long lo2), .second, .val (.long up2), .second, .val (.int (1 : Int32)), .unset, .unset, .unset, .unset, .unset, .unset, .unset] [(.int (0 : Int32))]
      refine OwnW.istore (pc' := 12) (L' := #[.val (.int sel), .val (.long est), .second, .val (.long lo1), .second, .val (.long up1), .second, .val (.long lo2), .second, .val (.long up2), .second, .val (.int (1 : Int32)), .val (.int (0 : Int32)), .unset, .unset, .unset, .unset, .unset, .unset]) at_10 rfl rfl ?_
      refine OwnW.iconst (pc' := 13) (v := (2 : Int32)) at_12 rfl rfl ?_
      refine OwnW.iload (pc' := 15) at_13 rfl rfl ?_
      refine OwnW.imul (pc' := 16) at_15 rfl ?_
      show GoB0 l Z n0 OwnW.One1 h0 0 0 16 #[.val (.int sel), .val (.long est), .second, .val (.long lo1), .second, .val (.long up1), .second, .val (.long lo2), .second, .val (.long up2), .second, .val (.int (1 : Int32)), .val (.int (0 : Int32)), .unset, .unset, .unset, .unset, .unset, .unset] [(.int (2 : Int32))]
      refine OwnW.iload (pc' := 18) at_16 rfl rfl ?_
      refine OwnW.iadd (pc' := 19) at_18 rfl ?_
      show GoB0 l Z n0 OwnW.One1 h0 0 0 19 #[.val (.int sel), .val (.long est), .second, .val (.long lo1), .second, .val (.long up1), .second, .val (.long lo2), .second, .val (.long up2), .second, .val (.int (1 : Int32)), .val (.int (0 : Int32)), .unset, .unset, .unset, .unset, .unset, .unset] [(.int (2 : Int32))]
      refine OwnW.istore (pc' := 21) (L' := #[.val (.int sel), .val (.long est), .second, .val (.long lo1), .second, .val (.long up1), .second, .val (.long lo2), .second, .val (.long up2), .second, .val (.int (1 : Int32)), .val (.int (0 : Int32)), .val (.int (2 : Int32)), .unset, .unset, .unset, .unset, .unset]) at_19 rfl rfl ?_
      refine OwnW.iload (pc' := 23) at_21 rfl rfl ?_
      refine OwnW.iconst (pc' := 24) (v := (1 : Int32)) at_23 rfl rfl ?_
      refine OwnW.iadd (pc' := 25) at_24 rfl ?_
      show GoB0 l Z n0 OwnW.One1 h0 0 0 25 #[.val (.int sel), .val (.long est), .second, .val (.long lo1), .second, .val (.long up1), .second, .val (.long lo2), .second, .val (.long up2), .second, .val (.int (1 : Int32)), .val (.int (0 : Int32)), .val (.int (2 : Int32)), .unset, .unset, .unset, .unset, .unset] [(.int (3 : Int32))]
      refine OwnW.iloadN (pc' := 26) at_25 rfl rfl ?_
      refine OwnW.iconst (pc' := 27) (v := (2 : Int32)) at_26 rfl rfl ?_
      refine OwnW.iushr (pc' := 28) at_27 rfl ?_
      refine OwnW.iconst (pc' := 29) (v := (3 : Int32)) at_28 rfl rfl ?_
      refine OwnW.iand (pc' := 30) at_29 rfl ?_
      refine OwnW.iconst (pc' := 31) (v := (3 : Int32)) at_30 rfl rfl ?_
      refine OwnW.irem (pc' := 32) at_31 (by decide) rfl ?_
      obtain ⟨r, hr⟩ : ∃ z, z = ((((sel.toUInt32 >>> ((2 : Int32) &&& 31).toUInt32).toInt32) &&& (3 : Int32)) % (3 : Int32)) := ⟨_, rfl⟩
      rw [← hr]
      show GoB0 l Z n0 OwnW.One1 h0 0 0 32 #[.val (.int sel), .val (.long est), .second, .val (.long lo1), .second, .val (.long up1), .second, .val (.long lo2), .second, .val (.long up2), .second, .val (.int (1 : Int32)), .val (.int (0 : Int32)), .val (.int (2 : Int32)), .unset, .unset, .unset, .unset, .unset] [(.int r), (.int (3 : Int32))]
      rcases (own_r hr) with rfl | rfl | rfl
      ·
        show GoB0 l Z n0 OwnW.One1 h0 0 0 32 #[.val (.int sel), .val (.long est), .second, .val (.long lo1), .second, .val (.long up1), .second, .val (.long lo2), .second, .val (.long up2), .second, .val (.int (1 : Int32)), .val (.int (0 : Int32)), .val (.int (2 : Int32)), .unset, .unset, .unset, .unset, .unset] [(.int (0 : Int32)), (.int (3 : Int32))]
        refine OwnW.iadd (pc' := 33) at_32 rfl ?_
        show GoB0 l Z n0 OwnW.One1 h0 0 0 33 #[.val (.int sel), .val (.long est), .second, .val (.long lo1), .second, .val (.long up1), .second, .val (.long lo2), .second, .val (.long up2), .second, .val (.int (1 : Int32)), .val (.int (0 : Int32)), .val (.int (2 : Int32)), .unset, .unset, .unset, .unset, .unset] [(.int (3 : Int32))]
        refine OwnW.iconst (pc' := 34) (v := (3 : Int32)) at_33 rfl rfl ?_
        refine OwnW.iand (pc' := 35) at_34 rfl ?_
        show GoB0 l Z n0 OwnW.One1 h0 0 0 35 #[.val (.int sel), .val (.long est), .second, .val (.long lo1), .second, .val (.long up1), .second, .val (.long lo2), .second, .val (.long up2), .second, .val (.int (1 : Int32)), .val (.int (0 : Int32)), .val (.int (2 : Int32)), .unset, .unset, .unset, .unset, .unset] [(.int (3 : Int32))]
        refine OwnW.istore (pc' := 37) (L' := #[.val (.int sel), .val (.long est), .second, .val (.long lo1), .second, .val (.long up1), .second, .val (.long lo2), .second, .val (.long up2), .second, .val (.int (1 : Int32)), .val (.int (0 : Int32)), .val (.int (2 : Int32)), .val (.int (3 : Int32)), .unset, .unset, .unset, .unset]) at_35 rfl rfl ?_
        refine OwnW.iload (pc' := 39) at_37 rfl rfl ?_
        refine OwnW.iconst (pc' := 40) (v := (1 : Int32)) at_39 rfl rfl ?_
        refine OwnW.ishr (pc' := 41) at_40 rfl ?_
        show GoB0 l Z n0 OwnW.One1 h0 0 0 41 #[.val (.int sel), .val (.long est), .second, .val (.long lo1), .second, .val (.long up1), .second, .val (.long lo2), .second, .val (.long up2), .second, .val (.int (1 : Int32)), .val (.int (0 : Int32)), .val (.int (2 : Int32)), .val (.int (3 : Int32)), .unset, .unset, .unset, .unset] [(.int (1 : Int32))]
        refine OwnW.istore (pc' := 43) (L' := #[.val (.int sel), .val (.long est), .second, .val (.long lo1), .second, .val (.long up1), .second, .val (.long lo2), .second, .val (.long up2), .second, .val (.int (1 : Int32)), .val (.int (0 : Int32)), .val (.int (2 : Int32)), .val (.int (3 : Int32)), .val (.int (1 : Int32)), .unset, .unset, .unset]) at_41 rfl rfl ?_
        refine OwnW.iload (pc' := 45) at_43 rfl rfl ?_
        refine OwnW.iconst (pc' := 46) (v := (1 : Int32)) at_45 rfl rfl ?_
        refine OwnW.iand (pc' := 47) at_46 rfl ?_
        show GoB0 l Z n0 OwnW.One1 h0 0 0 47 #[.val (.int sel), .val (.long est), .second, .val (.long lo1), .second, .val (.long up1), .second, .val (.long lo2), .second, .val (.long up2), .second, .val (.int (1 : Int32)), .val (.int (0 : Int32)), .val (.int (2 : Int32)), .val (.int (3 : Int32)), .val (.int (1 : Int32)), .unset, .unset, .unset] [(.int (1 : Int32))]
        refine OwnW.istore (pc' := 49) (L' := #[.val (.int sel), .val (.long est), .second, .val (.long lo1), .second, .val (.long up1), .second, .val (.long lo2), .second, .val (.long up2), .second, .val (.int (1 : Int32)), .val (.int (0 : Int32)), .val (.int (2 : Int32)), .val (.int (3 : Int32)), .val (.int (1 : Int32)), .val (.int (1 : Int32)), .unset, .unset]) at_47 rfl rfl ?_
        refine OwnW.iloadN (pc' := 50) at_49 rfl rfl ?_
        refine OwnW.bipush (pc' := 52) (v := (16 : Int32)) at_50 rfl rfl ?_
        refine OwnW.iand (pc' := 53) at_52 rfl ?_
        suffices J53_61 : ∀ (sb : Int32), sb = (if (sel &&& (16 : Int32)) = (0 : Int32) then (0 : Int32) else (1 : Int32)) → GoB0 l Z n0 OwnW.One1 h0 0 0 61 #[.val (.int sel), .val (.long est), .second, .val (.long lo1), .second, .val (.long up1), .second, .val (.long lo2), .second, .val (.long up2), .second, .val (.int (1 : Int32)), .val (.int (0 : Int32)), .val (.int (2 : Int32)), .val (.int (3 : Int32)), .val (.int (1 : Int32)), .val (.int (1 : Int32)), .unset, .unset] [(.int sb)] by
          by_cases hc53 : (sel &&& (16 : Int32)) = (0 : Int32)
          ·
            refine OwnW.ifcY (pc' := 60) at_53 ((if0 _ _).trans (teq hc53).1) (by decide) (by decide) ?_
            refine OwnW.iconst (pc' := 61) (v := (0 : Int32)) at_60 rfl rfl ?_
            exact J53_61 _ (by first | simp only [if_pos hc53] | rfl)
          ·
            refine OwnW.ifcN (pc' := 56) at_53 ((if0 _ _).trans (feq hc53).1) rfl ?_
            refine OwnW.iconst (pc' := 57) (v := (1 : Int32)) at_56 rfl rfl ?_
            refine OwnW.goto (pc' := 61) at_57 (by decide) (by decide) ?_
            exact J53_61 _ (by first | simp only [if_neg hc53] | rfl)
        intro sb hsb
        refine OwnW.istore (pc' := 63) (L' := #[.val (.int sel), .val (.long est), .second, .val (.long lo1), .second, .val (.long up1), .second, .val (.long lo2), .second, .val (.long up2), .second, .val (.int (1 : Int32)), .val (.int (0 : Int32)), .val (.int (2 : Int32)), .val (.int (3 : Int32)), .val (.int (1 : Int32)), .val (.int (1 : Int32)), .val (.int sb), .unset]) at_61 rfl rfl ?_
        refine OwnW.newO (a0 := a0) (pc' := 66) (k' := 1) (n' := 3) at_63 (hw _ (List.mem_of_getElem? (i := 0) rfl)) (hw _ (List.mem_of_getElem? (i := 1) rfl)) (hw _ (List.mem_of_getElem? (i := 2) rfl)) rfl rfl (by decide) (by decide) rfl ?_
        intro h317 ad317 g317 E317 A317 D317
        have ge_ad317 : n0 ≤ ad317 := Nat.le_trans Z0 (Nat.le_of_eq g317.symm)
        have sz_ad317 : n0 ≤ h317.size := Nat.le_trans Z0 E317.1
        have F317_lower : Fld Z h317 ad317 "com/example/parley/parley/treesearch/ChildBounds" "lower" "[[J" .null := D317 (Or.inr (hw _ (List.mem_of_getElem? (i := 13) rfl))) (ty := (.array (.array .long))) (by decide)
        have F317_upper : Fld Z h317 ad317 "com/example/parley/parley/treesearch/ChildBounds" "upper" "[[J" .null := D317 (Or.inr (hw _ (List.mem_of_getElem? (i := 15) rfl))) (ty := (.array (.array .long))) (by decide)
        have F317_assignments : Fld Z h317 ad317 "com/example/parley/parley/treesearch/ChildBounds" "assignments" "[[Lcom/example/parley/parley/treesearch/SubtreeAssignment;" .null := D317 (Or.inr (hw _ (List.mem_of_getElem? (i := 20) rfl))) (ty := (.array (.array (.object "com/example/parley/parley/treesearch/SubtreeAssignment")))) (by decide)
        refine OwnW.dup (pc' := 67) at_66 rfl rfl ?_
        refine OwnW.iconst (pc' := 68) (v := (2 : Int32)) at_67 rfl rfl ?_
        refine OwnW.iconst (pc' := 69) (v := (2 : Int32)) at_68 rfl rfl ?_
        refine OwnW.callI (a0 := a0) (pc' := 72) (W := 1) (k' := 10) (n' := 21) (argsL := [(.int (2 : Int32)), (.int (2 : Int32))]) (rest := [(.ref ad317)]) at_69 rfl (hw _ (List.mem_of_getElem? (i := 3) rfl)) (hw _ (List.mem_of_getElem? (i := 4) rfl)) (hw _ (List.mem_of_getElem? (i := 2) rfl)) (hw _ (List.mem_of_getElem? (i := 5) rfl)) (by decide) (rm1 l Z a0 hw ad317 h317 n0 sz_ad317 ge_ad317 A317 F317_lower F317_upper F317_assignments) (by decide) (by decide) rfl rfl (by decide) (by decide) rfl pd_28II29V rfl rfl rfl (Nat.le_of_ble_eq_true rfl) rfl ?_
        rintro h318 v318 ⟨ad318_0, ad318_1, ad318_2, kc318_0, kc318_1, kc318_2, kc318_3, kc318_4, kc318_5, rfl, K318, gl318_0, gl318_1, gl318_2, nn318_0_1, nn318_0_2, nn318_1_2, pp318_0, pp318_1, Fc318_0, Fc318_1, Fc318_2, Fc318_3, Fc318_4, Fc318_5, Fc318_6, Fc318_7, Fc318_8, Fc318_9, Fc318_10, Fc318_11, Fc318_12, Fc318_13⟩
        have lt_ad317_ad318_0 : @LT.lt Nat _ ad317 ad318_0 := Nat.lt_of_lt_of_le (A317).lt gl318_0
        have ge_ad318_0 : n0 ≤ ad318_0 := Nat.le_trans sz_ad317 gl318_0
        have lt_ad317_ad318_1 : @LT.lt Nat _ ad317 ad318_1 := Nat.lt_of_lt_of_le (A317).lt gl318_1
        have ge_ad318_1 : n0 ≤ ad318_1 := Nat.le_trans sz_ad317 gl318_1
        have lt_ad317_ad318_2 : @LT.lt Nat _ ad317 ad318_2 := Nat.lt_of_lt_of_le (A317).lt gl318_2
        have ge_ad318_2 : n0 ≤ ad318_2 := Nat.le_trans sz_ad317 gl318_2
        have sz319 : n0 ≤ h318.size := Nat.le_trans sz_ad317 K318.1
        show GoB0 l Z n0 OwnW.One1 h318 10 21 72 #[.val (.int sel), .val (.long est), .second, .val (.long lo1), .second, .val (.long up1), .second, .val (.long lo2), .second, .val (.long up2), .second, .val (.int (1 : Int32)), .val (.int (0 : Int32)), .val (.int (2 : Int32)), .val (.int (3 : Int32)), .val (.int (1 : Int32)), .val (.int (1 : Int32)), .val (.int sb), .unset] [(.ref ad317)]
        refine OwnW.astore (pc' := 74) (L' := #[.val (.int sel), .val (.long est), .second, .val (.long lo1), .second, .val (.long up1), .second, .val (.long lo2), .second, .val (.long up2), .second, .val (.int (1 : Int32)), .val (.int (0 : Int32)), .val (.int (2 : Int32)), .val (.int (3 : Int32)), .val (.int (1 : Int32)), .val (.int (1 : Int32)), .val (.int sb), .val (.ref ad317)]) at_72 (rfl) rfl rfl ?_
        refine OwnW.iload (pc' := 76) at_74 rfl rfl ?_
        by_cases hc76 : sb = (0 : Int32)
        ·
          refine OwnW.ifcY (pc' := 92) at_76 ((if0 _ _).trans (teq hc76).1) (by decide) (by decide) ?_
          refine OwnW.aload (pc' := 94) at_92 rfl (rfl) rfl ?_
          refine OwnW.iload (pc' := 96) at_94 rfl rfl ?_
          refine OwnW.iload (pc' := 98) at_96 rfl rfl ?_
          refine OwnW.lload (pc' := 100) at_98 rfl rfl ?_
          refine OwnW.lload (pc' := 102) at_100 rfl rfl ?_
          refine OwnW.aconstNull (pc' := 103) at_102 rfl ?_
          refine OwnW.callV (a0 := a0) (pc' := 106) (W := 0) (k' := 10) (n' := 21) (argsL := [(.int (1 : Int32)), (.int (1 : Int32)), (.long lo2), (.long up2), .null]) (rest := []) at_103 (hw _ (List.mem_of_getElem? (i := 26) rfl)) (hw _ (List.mem_of_getElem? (i := 27) rfl)) (hw _ (List.mem_of_getElem? (i := 29) rfl)) (hw _ (List.mem_of_getElem? (i := 28) rfl)) (hw _ (List.mem_of_getElem? (i := 2) rfl)) (hw _ (List.mem_of_getElem? (i := 30) rfl)) (by decide) Fc318_0 (rm4_11 l Z a0 hw ad317 lo2 up2 ad318_0 (ad318_0 + 1) (ad318_0 + 2) kc318_0 kc318_1 (0 : Int64) (0 : Int64) ad318_1 (ad318_1 + 1) (ad318_1 + 2) kc318_2 kc318_3 (9223372036854775807 : Int64) (9223372036854775807 : Int64) ad318_2 (ad318_2 + 1) (ad318_2 + 2) kc318_4 kc318_5 h318 n0 sz319 (Nat.le_trans ge_ad318_0 (Nat.le_add_right _ _)) (Nat.le_trans ge_ad318_1 (Nat.le_add_right _ _)) (Nat.le_trans ge_ad318_2 (Nat.le_add_right _ _)) Fc318_0 Fc318_1 Fc318_4 Fc318_6 Fc318_2 Fc318_7 Fc318_9 Fc318_3 Fc318_10 Fc318_12 (by omega : @Ne Nat (ad318_0 + 2) ad318_1) (by omega : @Ne Nat (ad318_0 + 2) (ad318_1 + 2)) (by omega : @Ne Nat (ad318_0 + 2) ad318_2) (by omega : @Ne Nat (ad318_0 + 2) (ad318_2 + 2)) (by omega : @Ne Nat (ad318_0 + 2) ad317) (by omega : @Ne Nat (ad318_0 + 2) ad318_0) (by omega : @Ne Nat (ad318_1 + 2) ad318_2) (by omega : @Ne Nat (ad318_1 + 2) (ad318_2 + 2)) (by omega : @Ne Nat (ad318_1 + 2) ad317) (by omega : @Ne Nat (ad318_1 + 2) ad318_0) (by omega : @Ne Nat (ad318_1 + 2) ad318_1) (by omega : @Ne Nat (ad318_2 + 2) ad317) (by omega : @Ne Nat (ad318_2 + 2) ad318_0) (by omega : @Ne Nat (ad318_2 + 2) ad318_1) (by omega : @Ne Nat (ad318_2 + 2) ad318_2)) (by decide) (by decide) rfl rfl (by decide) (by decide) rfl pd_28IIJJLcom2fexample2fparley2fparley2ftreesearch2fSubtreeAssignment3b29V rfl rfl rfl (Nat.le_of_ble_eq_true rfl) rfl ?_
          rintro h320 v320 ⟨rfl, K320, Fc320_0, Fc320_1, Fc320_2⟩
          have sz321 : n0 ≤ h320.size := Nat.le_trans sz319 K320.1
          show GoB0 l Z n0 OwnW.One1 h320 10 21 106 #[.val (.int sel), .val (.long est), .second, .val (.long lo1), .second, .val (.long up1), .second, .val (.long lo2), .second, .val (.long up2), .second, .val (.int (1 : Int32)), .val (.int (0 : Int32)), .val (.int (2 : Int32)), .val (.int (3 : Int32)), .val (.int (1 : Int32)), .val (.int (1 : Int32)), .val (.int sb), .val (.ref ad317)] []
          refine OwnW.aload (pc' := 108) at_106 rfl (rfl) rfl ?_
          refine OwnW.iload (pc' := 110) at_108 rfl rfl ?_
          refine OwnW.iload (pc' := 112) at_110 rfl rfl ?_
          refine OwnW.lloadN (pc' := 113) at_112 rfl rfl ?_
          have F322 := (Fc318_0.keep K320)
          have F323 := (Fc318_1.keep K320 (ninS (by omega : @Ne Nat ad317 (ad318_0 + 2)) (ninS (by omega : @Ne Nat ad317 (ad318_1 + 2)) (ninS (by omega : @Ne Nat ad317 (ad318_2 + 2)) nin0))))
          have F324 := (Fc318_4.keep K320 (ninS (by omega : @Ne Nat ad318_0 (ad318_0 + 2)) (ninS (by omega : @Ne Nat ad318_0 (ad318_1 + 2)) (ninS (by omega : @Ne Nat ad318_0 (ad318_2 + 2)) nin0))))
          have F325 := (Fc318_2.keep K320 (ninS (by omega : @Ne Nat ad317 (ad318_0 + 2)) (ninS (by omega : @Ne Nat ad317 (ad318_1 + 2)) (ninS (by omega : @Ne Nat ad317 (ad318_2 + 2)) nin0))))
          have F326 := (Fc318_7.keep K320 (ninS (by omega : @Ne Nat ad318_1 (ad318_0 + 2)) (ninS (by omega : @Ne Nat ad318_1 (ad318_1 + 2)) (ninS (by omega : @Ne Nat ad318_1 (ad318_2 + 2)) nin0))))
          have F327 := (Fc318_3.keep K320 (ninS (by omega : @Ne Nat ad317 (ad318_0 + 2)) (ninS (by omega : @Ne Nat ad317 (ad318_1 + 2)) (ninS (by omega : @Ne Nat ad317 (ad318_2 + 2)) nin0))))
          have F328 := (Fc318_10.keep K320 (ninS (by omega : @Ne Nat ad318_2 (ad318_0 + 2)) (ninS (by omega : @Ne Nat ad318_2 (ad318_1 + 2)) (ninS (by omega : @Ne Nat ad318_2 (ad318_2 + 2)) nin0))))
          refine OwnW.callV (a0 := a0) (pc' := 116) (W := 0) (k' := 10) (n' := 21) (argsL := [(.int (1 : Int32)), (.int (0 : Int32)), (.long est)]) (rest := []) at_113 (hw _ (List.mem_of_getElem? (i := 31) rfl)) (hw _ (List.mem_of_getElem? (i := 32) rfl)) (hw _ (List.mem_of_getElem? (i := 34) rfl)) (hw _ (List.mem_of_getElem? (i := 33) rfl)) (hw _ (List.mem_of_getElem? (i := 2) rfl)) (hw _ (List.mem_of_getElem? (i := 35) rfl)) (by decide) F322 (rm5_10 l Z a0 hw ad317 est ad318_0 (ad318_0 + 1) (ad318_0 + 2) kc318_0 kc318_1 (0 : Int64) lo2 ad318_1 (ad318_1 + 1) (ad318_1 + 2) kc318_2 kc318_3 (9223372036854775807 : Int64) up2 ad318_2 (ad318_2 + 1) (ad318_2 + 2) kc318_4 kc318_5 h320 n0 sz321 (Nat.le_trans ge_ad318_0 (Nat.le_add_right _ _)) (Nat.le_trans ge_ad318_1 (Nat.le_add_right _ _)) (Nat.le_trans ge_ad318_2 (Nat.le_add_right _ _)) F322 F323 F324 Fc320_0 F325 F326 Fc320_1 F327 F328 Fc320_2 (by omega : @Ne Nat (ad318_0 + 2) ad318_1) (by omega : @Ne Nat (ad318_0 + 2) (ad318_1 + 2)) (by omega : @Ne Nat (ad318_0 + 2) ad318_2) (by omega : @Ne Nat (ad318_0 + 2) (ad318_2 + 2)) (by omega : @Ne Nat (ad318_0 + 2) ad317) (by omega : @Ne Nat (ad318_0 + 2) ad318_0) (by omega : @Ne Nat (ad318_1 + 2) ad318_2) (by omega : @Ne Nat (ad318_1 + 2) (ad318_2 + 2)) (by omega : @Ne Nat (ad318_1 + 2) ad317) (by omega : @Ne Nat (ad318_1 + 2) ad318_0) (by omega : @Ne Nat (ad318_1 + 2) ad318_1) (by omega : @Ne Nat (ad318_2 + 2) ad317) (by omega : @Ne Nat (ad318_2 + 2) ad318_0) (by omega : @Ne Nat (ad318_2 + 2) ad318_1) (by omega : @Ne Nat (ad318_2 + 2) ad318_2)) (by decide) (by decide) rfl rfl (by decide) (by decide) rfl pd_28IIJ29V rfl rfl rfl (Nat.le_of_ble_eq_true rfl) rfl ?_
          rintro h329 v329 ⟨rfl, K329, Fc329_0, Fc329_1, Fc329_2⟩
          have sz330 : n0 ≤ h329.size := Nat.le_trans sz321 K329.1
          show GoB0 l Z n0 OwnW.One1 h329 10 21 116 #[.val (.int sel), .val (.long est), .second, .val (.long lo1), .second, .val (.long up1), .second, .val (.long lo2), .second, .val (.long up2), .second, .val (.int (1 : Int32)), .val (.int (0 : Int32)), .val (.int (2 : Int32)), .val (.int (3 : Int32)), .val (.int (1 : Int32)), .val (.int (1 : Int32)), .val (.int sb), .val (.ref ad317)] []
          refine OwnW.aload (pc' := 118) at_116 rfl (rfl) rfl ?_
          refine OwnW.iload (pc' := 120) at_118 rfl rfl ?_
          refine OwnW.iload (pc' := 122) at_120 rfl rfl ?_
          have F331 := (F323.keep K329 (ninS (by omega : @Ne Nat ad317 (ad318_0 + 2)) (ninS (by omega : @Ne Nat ad317 (ad318_1 + 2)) (ninS (by omega : @Ne Nat ad317 (ad318_2 + 2)) nin0))))
          have F332 := (F324.keep K329 (ninS (by omega : @Ne Nat ad318_0 (ad318_0 + 2)) (ninS (by omega : @Ne Nat ad318_0 (ad318_1 + 2)) (ninS (by omega : @Ne Nat ad318_0 (ad318_2 + 2)) nin0))))
          have F333 := (F322.keep K329)
          refine OwnW.callV0 (a0 := a0) (pc' := 125) (W := 0) (k' := 10) (n' := 21) (argsL := [(.int (1 : Int32)), (.int (0 : Int32))]) (rest := []) (St' := [(.long (f6_10 ad317 ad318_0 (ad318_0 + 1) (ad318_0 + 2) kc318_0 kc318_1 est lo2))]) at_122 (hw _ (List.mem_of_getElem? (i := 36) rfl)) (hw _ (List.mem_of_getElem? (i := 37) rfl)) (hw _ (List.mem_of_getElem? (i := 39) rfl)) (hw _ (List.mem_of_getElem? (i := 38) rfl)) (hw _ (List.mem_of_getElem? (i := 2) rfl)) (hw _ (List.mem_of_getElem? (i := 40) rfl)) (by decide) F333 (rm6_10 l Z a0 hw ad317 ad318_0 (ad318_0 + 1) (ad318_0 + 2) kc318_0 kc318_1 est lo2 h329 n0 F331 F332 Fc329_0) (by decide) (by decide) rfl rfl (by decide) (by decide) rfl pd_28II29J rfl rfl rfl (Nat.le_of_ble_eq_true rfl) rfl rfl ?_
          refine OwnW.lloadN (pc' := 126) at_125 rfl rfl ?_
          refine OwnW.lcmp (pc' := 127) at_126 rfl ?_
          refine OwnW.ifcN (pc' := 130) at_127 ((if0 _ _).trans (teq ((lw_eq _ _).mpr rfl)).2) rfl ?_
          refine OwnW.aload (pc' := 132) at_130 rfl (rfl) rfl ?_
          refine OwnW.iload (pc' := 134) at_132 rfl rfl ?_
          refine OwnW.iload (pc' := 136) at_134 rfl rfl ?_
          have F334 := (F325.keep K329 (ninS (by omega : @Ne Nat ad317 (ad318_0 + 2)) (ninS (by omega : @Ne Nat ad317 (ad318_1 + 2)) (ninS (by omega : @Ne Nat ad317 (ad318_2 + 2)) nin0))))
          have F335 := (F326.keep K329 (ninS (by omega : @Ne Nat ad318_1 (ad318_0 + 2)) (ninS (by omega : @Ne Nat ad318_1 (ad318_1 + 2)) (ninS (by omega : @Ne Nat ad318_1 (ad318_2 + 2)) nin0))))
          refine OwnW.callV0 (a0 := a0) (pc' := 139) (W := 0) (k' := 10) (n' := 21) (argsL := [(.int (1 : Int32)), (.int (0 : Int32))]) (rest := []) (St' := [(.long (f7_10 ad317 ad318_1 (ad318_1 + 1) (ad318_1 + 2) kc318_2 kc318_3 (9223372036854775807 : Int64) up2))]) at_136 (hw _ (List.mem_of_getElem? (i := 41) rfl)) (hw _ (List.mem_of_getElem? (i := 42) rfl)) (hw _ (List.mem_of_getElem? (i := 44) rfl)) (hw _ (List.mem_of_getElem? (i := 43) rfl)) (hw _ (List.mem_of_getElem? (i := 2) rfl)) (hw _ (List.mem_of_getElem? (i := 45) rfl)) (by decide) F333 (rm7_10 l Z a0 hw ad317 ad318_1 (ad318_1 + 1) (ad318_1 + 2) kc318_2 kc318_3 (9223372036854775807 : Int64) up2 h329 n0 F334 F335 Fc329_1) (by decide) (by decide) rfl rfl (by decide) (by decide) rfl pd_28II29J rfl rfl rfl (Nat.le_of_ble_eq_true rfl) rfl rfl ?_
          refine OwnW.ldc2J (a0 := a0) (pc' := 142) (v := (9223372036854775807 : Int64)) at_139 (hw _ (List.mem_of_getElem? (i := 46) rfl)) rfl ?_
          refine OwnW.lcmp (pc' := 143) at_142 rfl ?_
          refine OwnW.ifcN (pc' := 146) at_143 ((if0 _ _).trans (teq ((lw_eq _ _).mpr rfl)).2) rfl ?_
          refine OwnW.aload (pc' := 148) at_146 rfl (rfl) rfl ?_
          refine OwnW.iload (pc' := 150) at_148 rfl rfl ?_
          refine OwnW.iload (pc' := 152) at_150 rfl rfl ?_
          refine OwnW.callV0 (a0 := a0) (pc' := 155) (W := 0) (k' := 10) (n' := 21) (argsL := [(.int (1 : Int32)), (.int (1 : Int32))]) (rest := []) (St' := [(.long (f6_11 ad317 ad318_0 (ad318_0 + 1) (ad318_0 + 2) kc318_0 kc318_1 est lo2))]) at_152 (hw _ (List.mem_of_getElem? (i := 36) rfl)) (hw _ (List.mem_of_getElem? (i := 37) rfl)) (hw _ (List.mem_of_getElem? (i := 39) rfl)) (hw _ (List.mem_of_getElem? (i := 38) rfl)) (hw _ (List.mem_of_getElem? (i := 2) rfl)) (hw _ (List.mem_of_getElem? (i := 40) rfl)) (by decide) F333 (rm6_11 l Z a0 hw ad317 ad318_0 (ad318_0 + 1) (ad318_0 + 2) kc318_0 kc318_1 est lo2 h329 n0 F331 F332 Fc329_0) (by decide) (by decide) rfl rfl (by decide) (by decide) rfl pd_28II29J rfl rfl rfl (Nat.le_of_ble_eq_true rfl) rfl rfl ?_
          refine OwnW.lload (pc' := 157) at_155 rfl rfl ?_
          refine OwnW.lcmp (pc' := 158) at_157 rfl ?_
          refine OwnW.ifcN (pc' := 161) at_158 ((if0 _ _).trans (teq ((lw_eq _ _).mpr rfl)).2) rfl ?_
          refine OwnW.aload (pc' := 163) at_161 rfl (rfl) rfl ?_
          refine OwnW.iload (pc' := 165) at_163 rfl rfl ?_
          refine OwnW.iload (pc' := 167) at_165 rfl rfl ?_
          refine OwnW.callV0 (a0 := a0) (pc' := 170) (W := 0) (k' := 10) (n' := 21) (argsL := [(.int (1 : Int32)), (.int (1 : Int32))]) (rest := []) (St' := [(.long (f7_11 ad317 ad318_1 (ad318_1 + 1) (ad318_1 + 2) kc318_2 kc318_3 (9223372036854775807 : Int64) up2))]) at_167 (hw _ (List.mem_of_getElem? (i := 41) rfl)) (hw _ (List.mem_of_getElem? (i := 42) rfl)) (hw _ (List.mem_of_getElem? (i := 44) rfl)) (hw _ (List.mem_of_getElem? (i := 43) rfl)) (hw _ (List.mem_of_getElem? (i := 2) rfl)) (hw _ (List.mem_of_getElem? (i := 45) rfl)) (by decide) F333 (rm7_11 l Z a0 hw ad317 ad318_1 (ad318_1 + 1) (ad318_1 + 2) kc318_2 kc318_3 (9223372036854775807 : Int64) up2 h329 n0 F334 F335 Fc329_1) (by decide) (by decide) rfl rfl (by decide) (by decide) rfl pd_28II29J rfl rfl rfl (Nat.le_of_ble_eq_true rfl) rfl rfl ?_
          refine OwnW.lload (pc' := 172) at_170 rfl rfl ?_
          refine OwnW.lcmp (pc' := 173) at_172 rfl ?_
          refine OwnW.ifcN (pc' := 176) at_173 ((if0 _ _).trans (teq ((lw_eq _ _).mpr rfl)).2) rfl ?_
          refine OwnW.iconst (pc' := 177) (v := (1 : Int32)) at_176 rfl rfl ?_
          refine OwnW.goto (pc' := 181) at_177 (by decide) (by decide) ?_
          exact OwnW.retN (t := .boolean) at_181 rfl (by simp) rfl (by decide) (by decide) (rfl)
        ·
          refine OwnW.ifcN (pc' := 79) at_76 ((if0 _ _).trans (feq hc76).1) rfl ?_
          refine OwnW.aload (pc' := 81) at_79 rfl (rfl) rfl ?_
          refine OwnW.iload (pc' := 83) at_81 rfl rfl ?_
          refine OwnW.iload (pc' := 85) at_83 rfl rfl ?_
          refine OwnW.lloadN (pc' := 86) at_85 rfl rfl ?_
          refine OwnW.lload (pc' := 88) at_86 rfl rfl ?_
          refine OwnW.aconstNull (pc' := 89) at_88 rfl ?_
          refine OwnW.callV (a0 := a0) (pc' := 92) (W := 0) (k' := 10) (n' := 21) (argsL := [(.int (1 : Int32)), (.int (0 : Int32)), (.long lo1), (.long up1), .null]) (rest := []) at_89 (hw _ (List.mem_of_getElem? (i := 26) rfl)) (hw _ (List.mem_of_getElem? (i := 27) rfl)) (hw _ (List.mem_of_getElem? (i := 29) rfl)) (hw _ (List.mem_of_getElem? (i := 28) rfl)) (hw _ (List.mem_of_getElem? (i := 2) rfl)) (hw _ (List.mem_of_getElem? (i := 30) rfl)) (by decide) Fc318_0 (rm4_10 l Z a0 hw ad317 lo1 up1 ad318_0 (ad318_0 + 1) (ad318_0 + 2) kc318_0 kc318_1 (0 : Int64) (0 : Int64) ad318_1 (ad318_1 + 1) (ad318_1 + 2) kc318_2 kc318_3 (9223372036854775807 : Int64) (9223372036854775807 : Int64) ad318_2 (ad318_2 + 1) (ad318_2 + 2) kc318_4 kc318_5 h318 n0 sz319 (Nat.le_trans ge_ad318_0 (Nat.le_add_right _ _)) (Nat.le_trans ge_ad318_1 (Nat.le_add_right _ _)) (Nat.le_trans ge_ad318_2 (Nat.le_add_right _ _)) Fc318_0 Fc318_1 Fc318_4 Fc318_6 Fc318_2 Fc318_7 Fc318_9 Fc318_3 Fc318_10 Fc318_12 (by omega : @Ne Nat (ad318_0 + 2) ad318_1) (by omega : @Ne Nat (ad318_0 + 2) (ad318_1 + 2)) (by omega : @Ne Nat (ad318_0 + 2) ad318_2) (by omega : @Ne Nat (ad318_0 + 2) (ad318_2 + 2)) (by omega : @Ne Nat (ad318_0 + 2) ad317) (by omega : @Ne Nat (ad318_0 + 2) ad318_0) (by omega : @Ne Nat (ad318_1 + 2) ad318_2) (by omega : @Ne Nat (ad318_1 + 2) (ad318_2 + 2)) (by omega : @Ne Nat (ad318_1 + 2) ad317) (by omega : @Ne Nat (ad318_1 + 2) ad318_0) (by omega : @Ne Nat (ad318_1 + 2) ad318_1) (by omega : @Ne Nat (ad318_2 + 2) ad317) (by omega : @Ne Nat (ad318_2 + 2) ad318_0) (by omega : @Ne Nat (ad318_2 + 2) ad318_1) (by omega : @Ne Nat (ad318_2 + 2) ad318_2)) (by decide) (by decide) rfl rfl (by decide) (by decide) rfl pd_28IIJJLcom2fexample2fparley2fparley2ftreesearch2fSubtreeAssignment3b29V rfl rfl rfl (Nat.le_of_ble_eq_true rfl) rfl ?_
          rintro h336 v336 ⟨rfl, K336, Fc336_0, Fc336_1, Fc336_2⟩
          have sz337 : n0 ≤ h336.size := Nat.le_trans sz319 K336.1
          show GoB0 l Z n0 OwnW.One1 h336 10 21 92 #[.val (.int sel), .val (.long est), .second, .val (.long lo1), .second, .val (.long up1), .second, .val (.long lo2), .second, .val (.long up2), .second, .val (.int (1 : Int32)), .val (.int (0 : Int32)), .val (.int (2 : Int32)), .val (.int (3 : Int32)), .val (.int (1 : Int32)), .val (.int (1 : Int32)), .val (.int sb), .val (.ref ad317)] []
          refine OwnW.aload (pc' := 94) at_92 rfl (rfl) rfl ?_
          refine OwnW.iload (pc' := 96) at_94 rfl rfl ?_
          refine OwnW.iload (pc' := 98) at_96 rfl rfl ?_
          refine OwnW.lload (pc' := 100) at_98 rfl rfl ?_
          refine OwnW.lload (pc' := 102) at_100 rfl rfl ?_
          refine OwnW.aconstNull (pc' := 103) at_102 rfl ?_
          have F338 := (Fc318_0.keep K336)
          have F339 := (Fc318_1.keep K336 (ninS (by omega : @Ne Nat ad317 (ad318_0 + 2)) (ninS (by omega : @Ne Nat ad317 (ad318_1 + 2)) (ninS (by omega : @Ne Nat ad317 (ad318_2 + 2)) nin0))))
          have F340 := (Fc318_4.keep K336 (ninS (by omega : @Ne Nat ad318_0 (ad318_0 + 2)) (ninS (by omega : @Ne Nat ad318_0 (ad318_1 + 2)) (ninS (by omega : @Ne Nat ad318_0 (ad318_2 + 2)) nin0))))
          have F341 := (Fc318_2.keep K336 (ninS (by omega : @Ne Nat ad317 (ad318_0 + 2)) (ninS (by omega : @Ne Nat ad317 (ad318_1 + 2)) (ninS (by omega : @Ne Nat ad317 (ad318_2 + 2)) nin0))))
          have F342 := (Fc318_7.keep K336 (ninS (by omega : @Ne Nat ad318_1 (ad318_0 + 2)) (ninS (by omega : @Ne Nat ad318_1 (ad318_1 + 2)) (ninS (by omega : @Ne Nat ad318_1 (ad318_2 + 2)) nin0))))
          have F343 := (Fc318_3.keep K336 (ninS (by omega : @Ne Nat ad317 (ad318_0 + 2)) (ninS (by omega : @Ne Nat ad317 (ad318_1 + 2)) (ninS (by omega : @Ne Nat ad317 (ad318_2 + 2)) nin0))))
          have F344 := (Fc318_10.keep K336 (ninS (by omega : @Ne Nat ad318_2 (ad318_0 + 2)) (ninS (by omega : @Ne Nat ad318_2 (ad318_1 + 2)) (ninS (by omega : @Ne Nat ad318_2 (ad318_2 + 2)) nin0))))
          refine OwnW.callV (a0 := a0) (pc' := 106) (W := 0) (k' := 10) (n' := 21) (argsL := [(.int (1 : Int32)), (.int (1 : Int32)), (.long lo2), (.long up2), .null]) (rest := []) at_103 (hw _ (List.mem_of_getElem? (i := 26) rfl)) (hw _ (List.mem_of_getElem? (i := 27) rfl)) (hw _ (List.mem_of_getElem? (i := 29) rfl)) (hw _ (List.mem_of_getElem? (i := 28) rfl)) (hw _ (List.mem_of_getElem? (i := 2) rfl)) (hw _ (List.mem_of_getElem? (i := 30) rfl)) (by decide) F338 (rm4_11 l Z a0 hw ad317 lo2 up2 ad318_0 (ad318_0 + 1) (ad318_0 + 2) kc318_0 kc318_1 lo1 (0 : Int64) ad318_1 (ad318_1 + 1) (ad318_1 + 2) kc318_2 kc318_3 up1 (9223372036854775807 : Int64) ad318_2 (ad318_2 + 1) (ad318_2 + 2) kc318_4 kc318_5 h336 n0 sz337 (Nat.le_trans ge_ad318_0 (Nat.le_add_right _ _)) (Nat.le_trans ge_ad318_1 (Nat.le_add_right _ _)) (Nat.le_trans ge_ad318_2 (Nat.le_add_right _ _)) F338 F339 F340 Fc336_0 F341 F342 Fc336_1 F343 F344 Fc336_2 (by omega : @Ne Nat (ad318_0 + 2) ad318_1) (by omega : @Ne Nat (ad318_0 + 2) (ad318_1 + 2)) (by omega : @Ne Nat (ad318_0 + 2) ad318_2) (by omega : @Ne Nat (ad318_0 + 2) (ad318_2 + 2)) (by omega : @Ne Nat (ad318_0 + 2) ad317) (by omega : @Ne Nat (ad318_0 + 2) ad318_0) (by omega : @Ne Nat (ad318_1 + 2) ad318_2) (by omega : @Ne Nat (ad318_1 + 2) (ad318_2 + 2)) (by omega : @Ne Nat (ad318_1 + 2) ad317) (by omega : @Ne Nat (ad318_1 + 2) ad318_0) (by omega : @Ne Nat (ad318_1 + 2) ad318_1) (by omega : @Ne Nat (ad318_2 + 2) ad317) (by omega : @Ne Nat (ad318_2 + 2) ad318_0) (by omega : @Ne Nat (ad318_2 + 2) ad318_1) (by omega : @Ne Nat (ad318_2 + 2) ad318_2)) (by decide) (by decide) rfl rfl (by decide) (by decide) rfl pd_28IIJJLcom2fexample2fparley2fparley2ftreesearch2fSubtreeAssignment3b29V rfl rfl rfl (Nat.le_of_ble_eq_true rfl) rfl ?_
          rintro h345 v345 ⟨rfl, K345, Fc345_0, Fc345_1, Fc345_2⟩
          have sz346 : n0 ≤ h345.size := Nat.le_trans sz337 K345.1
          show GoB0 l Z n0 OwnW.One1 h345 10 21 106 #[.val (.int sel), .val (.long est), .second, .val (.long lo1), .second, .val (.long up1), .second, .val (.long lo2), .second, .val (.long up2), .second, .val (.int (1 : Int32)), .val (.int (0 : Int32)), .val (.int (2 : Int32)), .val (.int (3 : Int32)), .val (.int (1 : Int32)), .val (.int (1 : Int32)), .val (.int sb), .val (.ref ad317)] []
          refine OwnW.aload (pc' := 108) at_106 rfl (rfl) rfl ?_
          refine OwnW.iload (pc' := 110) at_108 rfl rfl ?_
          refine OwnW.iload (pc' := 112) at_110 rfl rfl ?_
          refine OwnW.lloadN (pc' := 113) at_112 rfl rfl ?_
          have F347 := (F338.keep K345)
          have F348 := (F339.keep K345 (ninS (by omega : @Ne Nat ad317 (ad318_0 + 2)) (ninS (by omega : @Ne Nat ad317 (ad318_1 + 2)) (ninS (by omega : @Ne Nat ad317 (ad318_2 + 2)) nin0))))
          have F349 := (F340.keep K345 (ninS (by omega : @Ne Nat ad318_0 (ad318_0 + 2)) (ninS (by omega : @Ne Nat ad318_0 (ad318_1 + 2)) (ninS (by omega : @Ne Nat ad318_0 (ad318_2 + 2)) nin0))))
          have F350 := (F341.keep K345 (ninS (by omega : @Ne Nat ad317 (ad318_0 + 2)) (ninS (by omega : @Ne Nat ad317 (ad318_1 + 2)) (ninS (by omega : @Ne Nat ad317 (ad318_2 + 2)) nin0))))
          have F351 := (F342.keep K345 (ninS (by omega : @Ne Nat ad318_1 (ad318_0 + 2)) (ninS (by omega : @Ne Nat ad318_1 (ad318_1 + 2)) (ninS (by omega : @Ne Nat ad318_1 (ad318_2 + 2)) nin0))))
          have F352 := (F343.keep K345 (ninS (by omega : @Ne Nat ad317 (ad318_0 + 2)) (ninS (by omega : @Ne Nat ad317 (ad318_1 + 2)) (ninS (by omega : @Ne Nat ad317 (ad318_2 + 2)) nin0))))
          have F353 := (F344.keep K345 (ninS (by omega : @Ne Nat ad318_2 (ad318_0 + 2)) (ninS (by omega : @Ne Nat ad318_2 (ad318_1 + 2)) (ninS (by omega : @Ne Nat ad318_2 (ad318_2 + 2)) nin0))))
          refine OwnW.callV (a0 := a0) (pc' := 116) (W := 0) (k' := 10) (n' := 21) (argsL := [(.int (1 : Int32)), (.int (0 : Int32)), (.long est)]) (rest := []) at_113 (hw _ (List.mem_of_getElem? (i := 31) rfl)) (hw _ (List.mem_of_getElem? (i := 32) rfl)) (hw _ (List.mem_of_getElem? (i := 34) rfl)) (hw _ (List.mem_of_getElem? (i := 33) rfl)) (hw _ (List.mem_of_getElem? (i := 2) rfl)) (hw _ (List.mem_of_getElem? (i := 35) rfl)) (by decide) F347 (rm5_10 l Z a0 hw ad317 est ad318_0 (ad318_0 + 1) (ad318_0 + 2) kc318_0 kc318_1 lo1 lo2 ad318_1 (ad318_1 + 1) (ad318_1 + 2) kc318_2 kc318_3 up1 up2 ad318_2 (ad318_2 + 1) (ad318_2 + 2) kc318_4 kc318_5 h345 n0 sz346 (Nat.le_trans ge_ad318_0 (Nat.le_add_right _ _)) (Nat.le_trans ge_ad318_1 (Nat.le_add_right _ _)) (Nat.le_trans ge_ad318_2 (Nat.le_add_right _ _)) F347 F348 F349 Fc345_0 F350 F351 Fc345_1 F352 F353 Fc345_2 (by omega : @Ne Nat (ad318_0 + 2) ad318_1) (by omega : @Ne Nat (ad318_0 + 2) (ad318_1 + 2)) (by omega : @Ne Nat (ad318_0 + 2) ad318_2) (by omega : @Ne Nat (ad318_0 + 2) (ad318_2 + 2)) (by omega : @Ne Nat (ad318_0 + 2) ad317) (by omega : @Ne Nat (ad318_0 + 2) ad318_0) (by omega : @Ne Nat (ad318_1 + 2) ad318_2) (by omega : @Ne Nat (ad318_1 + 2) (ad318_2 + 2)) (by omega : @Ne Nat (ad318_1 + 2) ad317) (by omega : @Ne Nat (ad318_1 + 2) ad318_0) (by omega : @Ne Nat (ad318_1 + 2) ad318_1) (by omega : @Ne Nat (ad318_2 + 2) ad317) (by omega : @Ne Nat (ad318_2 + 2) ad318_0) (by omega : @Ne Nat (ad318_2 + 2) ad318_1) (by omega : @Ne Nat (ad318_2 + 2) ad318_2)) (by decide) (by decide) rfl rfl (by decide) (by decide) rfl pd_28IIJ29V rfl rfl rfl (Nat.le_of_ble_eq_true rfl) rfl ?_
          rintro h354 v354 ⟨rfl, K354, Fc354_0, Fc354_1, Fc354_2⟩
          have sz355 : n0 ≤ h354.size := Nat.le_trans sz346 K354.1
          show GoB0 l Z n0 OwnW.One1 h354 10 21 116 #[.val (.int sel), .val (.long est), .second, .val (.long lo1), .second, .val (.long up1), .second, .val (.long lo2), .second, .val (.long up2), .second, .val (.int (1 : Int32)), .val (.int (0 : Int32)), .val (.int (2 : Int32)), .val (.int (3 : Int32)), .val (.int (1 : Int32)), .val (.int (1 : Int32)), .val (.int sb), .val (.ref ad317)] []
          refine OwnW.aload (pc' := 118) at_116 rfl (rfl) rfl ?_
          refine OwnW.iload (pc' := 120) at_118 rfl rfl ?_
          refine OwnW.iload (pc' := 122) at_120 rfl rfl ?_
          have F356 := (F348.keep K354 (ninS (by omega : @Ne Nat ad317 (ad318_0 + 2)) (ninS (by omega : @Ne Nat ad317 (ad318_1 + 2)) (ninS (by omega : @Ne Nat ad317 (ad318_2 + 2)) nin0))))
          have F357 := (F349.keep K354 (ninS (by omega : @Ne Nat ad318_0 (ad318_0 + 2)) (ninS (by omega : @Ne Nat ad318_0 (ad318_1 + 2)) (ninS (by omega : @Ne Nat ad318_0 (ad318_2 + 2)) nin0))))
          have F358 := (F347.keep K354)
          refine OwnW.callV0 (a0 := a0) (pc' := 125) (W := 0) (k' := 10) (n' := 21) (argsL := [(.int (1 : Int32)), (.int (0 : Int32))]) (rest := []) (St' := [(.long (f6_10 ad317 ad318_0 (ad318_0 + 1) (ad318_0 + 2) kc318_0 kc318_1 est lo2))]) at_122 (hw _ (List.mem_of_getElem? (i := 36) rfl)) (hw _ (List.mem_of_getElem? (i := 37) rfl)) (hw _ (List.mem_of_getElem? (i := 39) rfl)) (hw _ (List.mem_of_getElem? (i := 38) rfl)) (hw _ (List.mem_of_getElem? (i := 2) rfl)) (hw _ (List.mem_of_getElem? (i := 40) rfl)) (by decide) F358 (rm6_10 l Z a0 hw ad317 ad318_0 (ad318_0 + 1) (ad318_0 + 2) kc318_0 kc318_1 est lo2 h354 n0 F356 F357 Fc354_0) (by decide) (by decide) rfl rfl (by decide) (by decide) rfl pd_28II29J rfl rfl rfl (Nat.le_of_ble_eq_true rfl) rfl rfl ?_
          refine OwnW.lloadN (pc' := 126) at_125 rfl rfl ?_
          refine OwnW.lcmp (pc' := 127) at_126 rfl ?_
          refine OwnW.ifcN (pc' := 130) at_127 ((if0 _ _).trans (teq ((lw_eq _ _).mpr rfl)).2) rfl ?_
          refine OwnW.aload (pc' := 132) at_130 rfl (rfl) rfl ?_
          refine OwnW.iload (pc' := 134) at_132 rfl rfl ?_
          refine OwnW.iload (pc' := 136) at_134 rfl rfl ?_
          have F359 := (F350.keep K354 (ninS (by omega : @Ne Nat ad317 (ad318_0 + 2)) (ninS (by omega : @Ne Nat ad317 (ad318_1 + 2)) (ninS (by omega : @Ne Nat ad317 (ad318_2 + 2)) nin0))))
          have F360 := (F351.keep K354 (ninS (by omega : @Ne Nat ad318_1 (ad318_0 + 2)) (ninS (by omega : @Ne Nat ad318_1 (ad318_1 + 2)) (ninS (by omega : @Ne Nat ad318_1 (ad318_2 + 2)) nin0))))
          refine OwnW.callV0 (a0 := a0) (pc' := 139) (W := 0) (k' := 10) (n' := 21) (argsL := [(.int (1 : Int32)), (.int (0 : Int32))]) (rest := []) (St' := [(.long (f7_10 ad317 ad318_1 (ad318_1 + 1) (ad318_1 + 2) kc318_2 kc318_3 (9223372036854775807 : Int64) up2))]) at_136 (hw _ (List.mem_of_getElem? (i := 41) rfl)) (hw _ (List.mem_of_getElem? (i := 42) rfl)) (hw _ (List.mem_of_getElem? (i := 44) rfl)) (hw _ (List.mem_of_getElem? (i := 43) rfl)) (hw _ (List.mem_of_getElem? (i := 2) rfl)) (hw _ (List.mem_of_getElem? (i := 45) rfl)) (by decide) F358 (rm7_10 l Z a0 hw ad317 ad318_1 (ad318_1 + 1) (ad318_1 + 2) kc318_2 kc318_3 (9223372036854775807 : Int64) up2 h354 n0 F359 F360 Fc354_1) (by decide) (by decide) rfl rfl (by decide) (by decide) rfl pd_28II29J rfl rfl rfl (Nat.le_of_ble_eq_true rfl) rfl rfl ?_
          refine OwnW.ldc2J (a0 := a0) (pc' := 142) (v := (9223372036854775807 : Int64)) at_139 (hw _ (List.mem_of_getElem? (i := 46) rfl)) rfl ?_
          refine OwnW.lcmp (pc' := 143) at_142 rfl ?_
          refine OwnW.ifcN (pc' := 146) at_143 ((if0 _ _).trans (teq ((lw_eq _ _).mpr rfl)).2) rfl ?_
          refine OwnW.aload (pc' := 148) at_146 rfl (rfl) rfl ?_
          refine OwnW.iload (pc' := 150) at_148 rfl rfl ?_
          refine OwnW.iload (pc' := 152) at_150 rfl rfl ?_
          refine OwnW.callV0 (a0 := a0) (pc' := 155) (W := 0) (k' := 10) (n' := 21) (argsL := [(.int (1 : Int32)), (.int (1 : Int32))]) (rest := []) (St' := [(.long (f6_11 ad317 ad318_0 (ad318_0 + 1) (ad318_0 + 2) kc318_0 kc318_1 est lo2))]) at_152 (hw _ (List.mem_of_getElem? (i := 36) rfl)) (hw _ (List.mem_of_getElem? (i := 37) rfl)) (hw _ (List.mem_of_getElem? (i := 39) rfl)) (hw _ (List.mem_of_getElem? (i := 38) rfl)) (hw _ (List.mem_of_getElem? (i := 2) rfl)) (hw _ (List.mem_of_getElem? (i := 40) rfl)) (by decide) F358 (rm6_11 l Z a0 hw ad317 ad318_0 (ad318_0 + 1) (ad318_0 + 2) kc318_0 kc318_1 est lo2 h354 n0 F356 F357 Fc354_0) (by decide) (by decide) rfl rfl (by decide) (by decide) rfl pd_28II29J rfl rfl rfl (Nat.le_of_ble_eq_true rfl) rfl rfl ?_
          refine OwnW.lload (pc' := 157) at_155 rfl rfl ?_
          refine OwnW.lcmp (pc' := 158) at_157 rfl ?_
          refine OwnW.ifcN (pc' := 161) at_158 ((if0 _ _).trans (teq ((lw_eq _ _).mpr rfl)).2) rfl ?_
          refine OwnW.aload (pc' := 163) at_161 rfl (rfl) rfl ?_
          refine OwnW.iload (pc' := 165) at_163 rfl rfl ?_
          refine OwnW.iload (pc' := 167) at_165 rfl rfl ?_
          refine OwnW.callV0 (a0 := a0) (pc' := 170) (W := 0) (k' := 10) (n' := 21) (argsL := [(.int (1 : Int32)), (.int (1 : Int32))]) (rest := []) (St' := [(.long (f7_11 ad317 ad318_1 (ad318_1 + 1) (ad318_1 + 2) kc318_2 kc318_3 (9223372036854775807 : Int64) up2))]) at_167 (hw _ (List.mem_of_getElem? (i := 41) rfl)) (hw _ (List.mem_of_getElem? (i := 42) rfl)) (hw _ (List.mem_of_getElem? (i := 44) rfl)) (hw _ (List.mem_of_getElem? (i := 43) rfl)) (hw _ (List.mem_of_getElem? (i := 2) rfl)) (hw _ (List.mem_of_getElem? (i := 45) rfl)) (by decide) F358 (rm7_11 l Z a0 hw ad317 ad318_1 (ad318_1 + 1) (ad318_1 + 2) kc318_2 kc318_3 (9223372036854775807 : Int64) up2 h354 n0 F359 F360 Fc354_1) (by decide) (by decide) rfl rfl (by decide) (by decide) rfl pd_28II29J rfl rfl rfl (Nat.le_of_ble_eq_true rfl) rfl rfl ?_
          refine OwnW.lload (pc' := 172) at_170 rfl rfl ?_
          refine OwnW.lcmp (pc' := 173) at_172 rfl ?_
          refine OwnW.ifcN (pc' := 176) at_173 ((if0 _ _).trans (teq ((lw_eq _ _).mpr rfl)).2) rfl ?_
          refine OwnW.iconst (pc' := 177) (v := (1 : Int32)) at_176 rfl rfl ?_
          refine OwnW.goto (pc' := 181) at_177 (by decide) (by decide) ?_
          exact OwnW.retN (t := .boolean) at_181 rfl (by simp) rfl (by decide) (by decide) (rfl)
      ·
        show GoB0 l Z n0 OwnW.One1 h0 0 0 32 #[.val (.int sel), .val (.long est), .second, .val (.long lo1), .second, .val (.long up1), .second, .val (.long lo2), .second, .val (.long up2), .second, .val (.int (1 : Int32)), .val (.int (0 : Int32)), .val (.int (2 : Int32)), .unset, .unset, .unset, .unset, .unset] [(.int (1 : Int32)), (.int (3 : Int32))]
        refine OwnW.iadd (pc' := 33) at_32 rfl ?_
        show GoB0 l Z n0 OwnW.One1 h0 0 0 33 #[.val (.int sel), .val (.long est), .second, .val (.long lo1), .second, .val (.long up1), .second, .val (.long lo2), .second, .val (.long up2), .second, .val (.int (1 : Int32)), .val (.int (0 : Int32)), .val (.int (2 : Int32)), .unset, .unset, .unset, .unset, .unset] [(.int (4 : Int32))]
        refine OwnW.iconst (pc' := 34) (v := (3 : Int32)) at_33 rfl rfl ?_
        refine OwnW.iand (pc' := 35) at_34 rfl ?_
        show GoB0 l Z n0 OwnW.One1 h0 0 0 35 #[.val (.int sel), .val (.long est), .second, .val (.long lo1), .second, .val (.long up1), .second, .val (.long lo2), .second, .val (.long up2), .second, .val (.int (1 : Int32)), .val (.int (0 : Int32)), .val (.int (2 : Int32)), .unset, .unset, .unset, .unset, .unset] [(.int (0 : Int32))]
        refine OwnW.istore (pc' := 37) (L' := #[.val (.int sel), .val (.long est), .second, .val (.long lo1), .second, .val (.long up1), .second, .val (.long lo2), .second, .val (.long up2), .second, .val (.int (1 : Int32)), .val (.int (0 : Int32)), .val (.int (2 : Int32)), .val (.int (0 : Int32)), .unset, .unset, .unset, .unset]) at_35 rfl rfl ?_
        refine OwnW.iload (pc' := 39) at_37 rfl rfl ?_
        refine OwnW.iconst (pc' := 40) (v := (1 : Int32)) at_39 rfl rfl ?_
        refine OwnW.ishr (pc' := 41) at_40 rfl ?_
        show GoB0 l Z n0 OwnW.One1 h0 0 0 41 #[.val (.int sel), .val (.long est), .second, .val (.long lo1), .second, .val (.long up1), .second, .val (.long lo2), .second, .val (.long up2), .second, .val (.int (1 : Int32)), .val (.int (0 : Int32)), .val (.int (2 : Int32)), .val (.int (0 : Int32)), .unset, .unset, .unset, .unset] [(.int (0 : Int32))]
        refine OwnW.istore (pc' := 43) (L' := #[.val (.int sel), .val (.long est), .second, .val (.long lo1), .second, .val (.long up1), .second, .val (.long lo2), .second, .val (.long up2), .second, .val (.int (1 : Int32)), .val (.int (0 : Int32)), .val (.int (2 : Int32)), .val (.int (0 : Int32)), .val (.int (0 : Int32)), .unset, .unset, .unset]) at_41 rfl rfl ?_
        refine OwnW.iload (pc' := 45) at_43 rfl rfl ?_
        refine OwnW.iconst (pc' := 46) (v := (1 : Int32)) at_45 rfl rfl ?_
        refine OwnW.iand (pc' := 47) at_46 rfl ?_
        show GoB0 l Z n0 OwnW.One1 h0 0 0 47 #[.val (.int sel), .val (.long est), .second, .val (.long lo1), .second, .val (.long up1), .second, .val (.long lo2), .second, .val (.long up2), .second, .val (.int (1 : Int32)), .val (.int (0 : Int32)), .val (.int (2 : Int32)), .val (.int (0 : Int32)), .val (.int (0 : Int32)), .unset, .unset, .unset] [(.int (0 : Int32))]
        refine OwnW.istore (pc' := 49) (L' := #[.val (.int sel), .val (.long est), .second, .val (.long lo1), .second, .val (.long up1), .second, .val (.long lo2), .second, .val (.long up2), .second, .val (.int (1 : Int32)), .val (.int (0 : Int32)), .val (.int (2 : Int32)), .val (.int (0 : Int32)), .val (.int (0 : Int32)), .val (.int (0 : Int32)), .unset, .unset]) at_47 rfl rfl ?_
        refine OwnW.iloadN (pc' := 50) at_49 rfl rfl ?_
        refine OwnW.bipush (pc' := 52) (v := (16 : Int32)) at_50 rfl rfl ?_
        refine OwnW.iand (pc' := 53) at_52 rfl ?_
        suffices J53_61 : ∀ (sb : Int32), sb = (if (sel &&& (16 : Int32)) = (0 : Int32) then (0 : Int32) else (1 : Int32)) → GoB0 l Z n0 OwnW.One1 h0 0 0 61 #[.val (.int sel), .val (.long est), .second, .val (.long lo1), .second, .val (.long up1), .second, .val (.long lo2), .second, .val (.long up2), .second, .val (.int (1 : Int32)), .val (.int (0 : Int32)), .val (.int (2 : Int32)), .val (.int (0 : Int32)), .val (.int (0 : Int32)), .val (.int (0 : Int32)), .unset, .unset] [(.int sb)] by
          by_cases hc53 : (sel &&& (16 : Int32)) = (0 : Int32)
          ·
            refine OwnW.ifcY (pc' := 60) at_53 ((if0 _ _).trans (teq hc53).1) (by decide) (by decide) ?_
            refine OwnW.iconst (pc' := 61) (v := (0 : Int32)) at_60 rfl rfl ?_
            exact J53_61 _ (by first | simp only [if_pos hc53] | rfl)
          ·
            refine OwnW.ifcN (pc' := 56) at_53 ((if0 _ _).trans (feq hc53).1) rfl ?_
            refine OwnW.iconst (pc' := 57) (v := (1 : Int32)) at_56 rfl rfl ?_
            refine OwnW.goto (pc' := 61) at_57 (by decide) (by decide) ?_
            exact J53_61 _ (by first | simp only [if_neg hc53] | rfl)
        intro sb hsb
        refine OwnW.istore (pc' := 63) (L' := #[.val (.int sel), .val (.long est), .second, .val (.long lo1), .second, .val (.long up1), .second, .val (.long lo2), .second, .val (.long up2), .second, .val (.int (1 : Int32)), .val (.int (0 : Int32)), .val (.int (2 : Int32)), .val (.int (0 : Int32)), .val (.int (0 : Int32)), .val (.int (0 : Int32)), .val (.int sb), .unset]) at_61 rfl rfl ?_
        refine OwnW.newO (a0 := a0) (pc' := 66) (k' := 1) (n' := 3) at_63 (hw _ (List.mem_of_getElem? (i := 0) rfl)) (hw _ (List.mem_of_getElem? (i := 1) rfl)) (hw _ (List.mem_of_getElem? (i := 2) rfl)) rfl rfl (by decide) (by decide) rfl ?_
        intro h361 ad361 g361 E361 A361 D361
        have ge_ad361 : n0 ≤ ad361 := Nat.le_trans Z0 (Nat.le_of_eq g361.symm)
        have sz_ad361 : n0 ≤ h361.size := Nat.le_trans Z0 E361.1
        have F361_lower : Fld Z h361 ad361 "com/example/parley/parley/treesearch/ChildBounds" "lower" "[[J" .null := D361 (Or.inr (hw _ (List.mem_of_getElem? (i := 13) rfl))) (ty := (.array (.array .long))) (by decide)
        have F361_upper : Fld Z h361 ad361 "com/example/parley/parley/treesearch/ChildBounds" "upper" "[[J" .null := D361 (Or.inr (hw _ (List.mem_of_getElem? (i := 15) rfl))) (ty := (.array (.array .long))) (by decide)
        have F361_assignments : Fld Z h361 ad361 "com/example/parley/parley/treesearch/ChildBounds" "assignments" "[[Lcom/example/parley/parley/treesearch/SubtreeAssignment;" .null := D361 (Or.inr (hw _ (List.mem_of_getElem? (i := 20) rfl))) (ty := (.array (.array (.object "com/example/parley/parley/treesearch/SubtreeAssignment")))) (by decide)
        refine OwnW.dup (pc' := 67) at_66 rfl rfl ?_
        refine OwnW.iconst (pc' := 68) (v := (2 : Int32)) at_67 rfl rfl ?_
        refine OwnW.iconst (pc' := 69) (v := (2 : Int32)) at_68 rfl rfl ?_
        refine OwnW.callI (a0 := a0) (pc' := 72) (W := 1) (k' := 10) (n' := 21) (argsL := [(.int (2 : Int32)), (.int (2 : Int32))]) (rest := [(.ref ad361)]) at_69 rfl (hw _ (List.mem_of_getElem? (i := 3) rfl)) (hw _ (List.mem_of_getElem? (i := 4) rfl)) (hw _ (List.mem_of_getElem? (i := 2) rfl)) (hw _ (List.mem_of_getElem? (i := 5) rfl)) (by decide) (rm1 l Z a0 hw ad361 h361 n0 sz_ad361 ge_ad361 A361 F361_lower F361_upper F361_assignments) (by decide) (by decide) rfl rfl (by decide) (by decide) rfl pd_28II29V rfl rfl rfl (Nat.le_of_ble_eq_true rfl) rfl ?_
        rintro h362 v362 ⟨ad362_0, ad362_1, ad362_2, kc362_0, kc362_1, kc362_2, kc362_3, kc362_4, kc362_5, rfl, K362, gl362_0, gl362_1, gl362_2, nn362_0_1, nn362_0_2, nn362_1_2, pp362_0, pp362_1, Fc362_0, Fc362_1, Fc362_2, Fc362_3, Fc362_4, Fc362_5, Fc362_6, Fc362_7, Fc362_8, Fc362_9, Fc362_10, Fc362_11, Fc362_12, Fc362_13⟩
        have lt_ad361_ad362_0 : @LT.lt Nat _ ad361 ad362_0 := Nat.lt_of_lt_of_le (A361).lt gl362_0
        have ge_ad362_0 : n0 ≤ ad362_0 := Nat.le_trans sz_ad361 gl362_0
        have lt_ad361_ad362_1 : @LT.lt Nat _ ad361 ad362_1 := Nat.lt_of_lt_of_le (A361).lt gl362_1
        have ge_ad362_1 : n0 ≤ ad362_1 := Nat.le_trans sz_ad361 gl362_1
        have lt_ad361_ad362_2 : @LT.lt Nat _ ad361 ad362_2 := Nat.lt_of_lt_of_le (A361).lt gl362_2
        have ge_ad362_2 : n0 ≤ ad362_2 := Nat.le_trans sz_ad361 gl362_2
        have sz363 : n0 ≤ h362.size := Nat.le_trans sz_ad361 K362.1
        show GoB0 l Z n0 OwnW.One1 h362 10 21 72 #[.val (.int sel), .val (.long est), .second, .val (.long lo1), .second, .val (.long up1), .second, .val (.long lo2), .second, .val (.long up2), .second, .val (.int (1 : Int32)), .val (.int (0 : Int32)), .val (.int (2 : Int32)), .val (.int (0 : Int32)), .val (.int (0 : Int32)), .val (.int (0 : Int32)), .val (.int sb), .unset] [(.ref ad361)]
        refine OwnW.astore (pc' := 74) (L' := #[.val (.int sel), .val (.long est), .second, .val (.long lo1), .second, .val (.long up1), .second, .val (.long lo2), .second, .val (.long up2), .second, .val (.int (1 : Int32)), .val (.int (0 : Int32)), .val (.int (2 : Int32)), .val (.int (0 : Int32)), .val (.int (0 : Int32)), .val (.int (0 : Int32)), .val (.int sb), .val (.ref ad361)]) at_72 (rfl) rfl rfl ?_
        refine OwnW.iload (pc' := 76) at_74 rfl rfl ?_
        by_cases hc76 : sb = (0 : Int32)
        ·
          refine OwnW.ifcY (pc' := 92) at_76 ((if0 _ _).trans (teq hc76).1) (by decide) (by decide) ?_
          refine OwnW.aload (pc' := 94) at_92 rfl (rfl) rfl ?_
          refine OwnW.iload (pc' := 96) at_94 rfl rfl ?_
          refine OwnW.iload (pc' := 98) at_96 rfl rfl ?_
          refine OwnW.lload (pc' := 100) at_98 rfl rfl ?_
          refine OwnW.lload (pc' := 102) at_100 rfl rfl ?_
          refine OwnW.aconstNull (pc' := 103) at_102 rfl ?_
          refine OwnW.callV (a0 := a0) (pc' := 106) (W := 0) (k' := 10) (n' := 21) (argsL := [(.int (0 : Int32)), (.int (0 : Int32)), (.long lo2), (.long up2), .null]) (rest := []) at_103 (hw _ (List.mem_of_getElem? (i := 26) rfl)) (hw _ (List.mem_of_getElem? (i := 27) rfl)) (hw _ (List.mem_of_getElem? (i := 29) rfl)) (hw _ (List.mem_of_getElem? (i := 28) rfl)) (hw _ (List.mem_of_getElem? (i := 2) rfl)) (hw _ (List.mem_of_getElem? (i := 30) rfl)) (by decide) Fc362_0 (rm4_00 l Z a0 hw ad361 lo2 up2 ad362_0 (ad362_0 + 1) (ad362_0 + 2) kc362_0 kc362_1 (0 : Int64) (0 : Int64) ad362_1 (ad362_1 + 1) (ad362_1 + 2) kc362_2 kc362_3 (9223372036854775807 : Int64) (9223372036854775807 : Int64) ad362_2 (ad362_2 + 1) (ad362_2 + 2) kc362_4 kc362_5 h362 n0 sz363 (Nat.le_trans ge_ad362_0 (Nat.le_add_right _ _)) (Nat.le_trans ge_ad362_1 (Nat.le_add_right _ _)) (Nat.le_trans ge_ad362_2 (Nat.le_add_right _ _)) Fc362_0 Fc362_1 Fc362_4 Fc362_5 Fc362_2 Fc362_7 Fc362_8 Fc362_3 Fc362_10 Fc362_11 (by omega : @Ne Nat (ad362_0 + 1) ad362_1) (by omega : @Ne Nat (ad362_0 + 1) (ad362_1 + 1)) (by omega : @Ne Nat (ad362_0 + 1) ad362_2) (by omega : @Ne Nat (ad362_0 + 1) (ad362_2 + 1)) (by omega : @Ne Nat (ad362_0 + 1) ad361) (by omega : @Ne Nat (ad362_0 + 1) ad362_0) (by omega : @Ne Nat (ad362_1 + 1) ad362_2) (by omega : @Ne Nat (ad362_1 + 1) (ad362_2 + 1)) (by omega : @Ne Nat (ad362_1 + 1) ad361) (by omega : @Ne Nat (ad362_1 + 1) ad362_0) (by omega : @Ne Nat (ad362_1 + 1) ad362_1) (by omega : @Ne Nat (ad362_2 + 1) ad361) (by omega : @Ne Nat (ad362_2 + 1) ad362_0) (by omega : @Ne Nat (ad362_2 + 1) ad362_1) (by omega : @Ne Nat (ad362_2 + 1) ad362_2)) (by decide) (by decide) rfl rfl (by decide) (by decide) rfl pd_28IIJJLcom2fexample2fparley2fparley2ftreesearch2fSubtreeAssignment3b29V rfl rfl rfl (Nat.le_of_ble_eq_true rfl) rfl ?_
          rintro h364 v364 ⟨rfl, K364, Fc364_0, Fc364_1, Fc364_2⟩
          have sz365 : n0 ≤ h364.size := Nat.le_trans sz363 K364.1
          show GoB0 l Z n0 OwnW.One1 h364 10 21 106 #[.val (.int sel), .val (.long est), .second, .val (.long lo1), .second, .val (.long up1), .second, .val (.long lo2), .second, .val (.long up2), .second, .val (.int (1 : Int32)), .val (.int (0 : Int32)), .val (.int (2 : Int32)), .val (.int (0 : Int32)), .val (.int (0 : Int32)), .val (.int (0 : Int32)), .val (.int sb), .val (.ref ad361)] []
          refine OwnW.aload (pc' := 108) at_106 rfl (rfl) rfl ?_
          refine OwnW.iload (pc' := 110) at_108 rfl rfl ?_
          refine OwnW.iload (pc' := 112) at_110 rfl rfl ?_
          refine OwnW.lloadN (pc' := 113) at_112 rfl rfl ?_
          have F366 := (Fc362_0.keep K364)
          have F367 := (Fc362_1.keep K364 (ninS (by omega : @Ne Nat ad361 (ad362_0 + 1)) (ninS (by omega : @Ne Nat ad361 (ad362_1 + 1)) (ninS (by omega : @Ne Nat ad361 (ad362_2 + 1)) nin0))))
          have F368 := (Fc362_4.keep K364 (ninS (by omega : @Ne Nat ad362_0 (ad362_0 + 1)) (ninS (by omega : @Ne Nat ad362_0 (ad362_1 + 1)) (ninS (by omega : @Ne Nat ad362_0 (ad362_2 + 1)) nin0))))
          have F369 := (Fc362_6.keep K364 (ninS (by omega : @Ne Nat (ad362_0 + 2) (ad362_0 + 1)) (ninS (by omega : @Ne Nat (ad362_0 + 2) (ad362_1 + 1)) (ninS (by omega : @Ne Nat (ad362_0 + 2) (ad362_2 + 1)) nin0))))
          have F370 := (Fc362_2.keep K364 (ninS (by omega : @Ne Nat ad361 (ad362_0 + 1)) (ninS (by omega : @Ne Nat ad361 (ad362_1 + 1)) (ninS (by omega : @Ne Nat ad361 (ad362_2 + 1)) nin0))))
          have F371 := (Fc362_7.keep K364 (ninS (by omega : @Ne Nat ad362_1 (ad362_0 + 1)) (ninS (by omega : @Ne Nat ad362_1 (ad362_1 + 1)) (ninS (by omega : @Ne Nat ad362_1 (ad362_2 + 1)) nin0))))
          have F372 := (Fc362_9.keep K364 (ninS (by omega : @Ne Nat (ad362_1 + 2) (ad362_0 + 1)) (ninS (by omega : @Ne Nat (ad362_1 + 2) (ad362_1 + 1)) (ninS (by omega : @Ne Nat (ad362_1 + 2) (ad362_2 + 1)) nin0))))
          have F373 := (Fc362_3.keep K364 (ninS (by omega : @Ne Nat ad361 (ad362_0 + 1)) (ninS (by omega : @Ne Nat ad361 (ad362_1 + 1)) (ninS (by omega : @Ne Nat ad361 (ad362_2 + 1)) nin0))))
          have F374 := (Fc362_10.keep K364 (ninS (by omega : @Ne Nat ad362_2 (ad362_0 + 1)) (ninS (by omega : @Ne Nat ad362_2 (ad362_1 + 1)) (ninS (by omega : @Ne Nat ad362_2 (ad362_2 + 1)) nin0))))
          have F375 := (Fc362_12.keep K364 (ninS (by omega : @Ne Nat (ad362_2 + 2) (ad362_0 + 1)) (ninS (by omega : @Ne Nat (ad362_2 + 2) (ad362_1 + 1)) (ninS (by omega : @Ne Nat (ad362_2 + 2) (ad362_2 + 1)) nin0))))
          refine OwnW.callV (a0 := a0) (pc' := 116) (W := 0) (k' := 10) (n' := 21) (argsL := [(.int (1 : Int32)), (.int (0 : Int32)), (.long est)]) (rest := []) at_113 (hw _ (List.mem_of_getElem? (i := 31) rfl)) (hw _ (List.mem_of_getElem? (i := 32) rfl)) (hw _ (List.mem_of_getElem? (i := 34) rfl)) (hw _ (List.mem_of_getElem? (i := 33) rfl)) (hw _ (List.mem_of_getElem? (i := 2) rfl)) (hw _ (List.mem_of_getElem? (i := 35) rfl)) (by decide) F366 (rm5_10 l Z a0 hw ad361 est ad362_0 (ad362_0 + 1) (ad362_0 + 2) kc362_0 kc362_1 (0 : Int64) (0 : Int64) ad362_1 (ad362_1 + 1) (ad362_1 + 2) kc362_2 kc362_3 (9223372036854775807 : Int64) (9223372036854775807 : Int64) ad362_2 (ad362_2 + 1) (ad362_2 + 2) kc362_4 kc362_5 h364 n0 sz365 (Nat.le_trans ge_ad362_0 (Nat.le_add_right _ _)) (Nat.le_trans ge_ad362_1 (Nat.le_add_right _ _)) (Nat.le_trans ge_ad362_2 (Nat.le_add_right _ _)) F366 F367 F368 F369 F370 F371 F372 F373 F374 F375 (by omega : @Ne Nat (ad362_0 + 2) ad362_1) (by omega : @Ne Nat (ad362_0 + 2) (ad362_1 + 2)) (by omega : @Ne Nat (ad362_0 + 2) ad362_2) (by omega : @Ne Nat (ad362_0 + 2) (ad362_2 + 2)) (by omega : @Ne Nat (ad362_0 + 2) ad361) (by omega : @Ne Nat (ad362_0 + 2) ad362_0) (by omega : @Ne Nat (ad362_1 + 2) ad362_2) (by omega : @Ne Nat (ad362_1 + 2) (ad362_2 + 2)) (by omega : @Ne Nat (ad362_1 + 2) ad361) (by omega : @Ne Nat (ad362_1 + 2) ad362_0) (by omega : @Ne Nat (ad362_1 + 2) ad362_1) (by omega : @Ne Nat (ad362_2 + 2) ad361) (by omega : @Ne Nat (ad362_2 + 2) ad362_0) (by omega : @Ne Nat (ad362_2 + 2) ad362_1) (by omega : @Ne Nat (ad362_2 + 2) ad362_2)) (by decide) (by decide) rfl rfl (by decide) (by decide) rfl pd_28IIJ29V rfl rfl rfl (Nat.le_of_ble_eq_true rfl) rfl ?_
          rintro h376 v376 ⟨rfl, K376, Fc376_0, Fc376_1, Fc376_2⟩
          have sz377 : n0 ≤ h376.size := Nat.le_trans sz365 K376.1
          show GoB0 l Z n0 OwnW.One1 h376 10 21 116 #[.val (.int sel), .val (.long est), .second, .val (.long lo1), .second, .val (.long up1), .second, .val (.long lo2), .second, .val (.long up2), .second, .val (.int (1 : Int32)), .val (.int (0 : Int32)), .val (.int (2 : Int32)), .val (.int (0 : Int32)), .val (.int (0 : Int32)), .val (.int (0 : Int32)), .val (.int sb), .val (.ref ad361)] []
          refine OwnW.aload (pc' := 118) at_116 rfl (rfl) rfl ?_
          refine OwnW.iload (pc' := 120) at_118 rfl rfl ?_
          refine OwnW.iload (pc' := 122) at_120 rfl rfl ?_
          have F378 := (F367.keep K376 (ninS (by omega : @Ne Nat ad361 (ad362_0 + 2)) (ninS (by omega : @Ne Nat ad361 (ad362_1 + 2)) (ninS (by omega : @Ne Nat ad361 (ad362_2 + 2)) nin0))))
          have F379 := (F368.keep K376 (ninS (by omega : @Ne Nat ad362_0 (ad362_0 + 2)) (ninS (by omega : @Ne Nat ad362_0 (ad362_1 + 2)) (ninS (by omega : @Ne Nat ad362_0 (ad362_2 + 2)) nin0))))
          have F380 := (F366.keep K376)
          refine OwnW.callV0 (a0 := a0) (pc' := 125) (W := 0) (k' := 10) (n' := 21) (argsL := [(.int (1 : Int32)), (.int (0 : Int32))]) (rest := []) (St' := [(.long (f6_10 ad361 ad362_0 (ad362_0 + 1) (ad362_0 + 2) kc362_0 kc362_1 est (0 : Int64)))]) at_122 (hw _ (List.mem_of_getElem? (i := 36) rfl)) (hw _ (List.mem_of_getElem? (i := 37) rfl)) (hw _ (List.mem_of_getElem? (i := 39) rfl)) (hw _ (List.mem_of_getElem? (i := 38) rfl)) (hw _ (List.mem_of_getElem? (i := 2) rfl)) (hw _ (List.mem_of_getElem? (i := 40) rfl)) (by decide) F380 (rm6_10 l Z a0 hw ad361 ad362_0 (ad362_0 + 1) (ad362_0 + 2) kc362_0 kc362_1 est (0 : Int64) h376 n0 F378 F379 Fc376_0) (by decide) (by decide) rfl rfl (by decide) (by decide) rfl pd_28II29J rfl rfl rfl (Nat.le_of_ble_eq_true rfl) rfl rfl ?_
          refine OwnW.lloadN (pc' := 126) at_125 rfl rfl ?_
          refine OwnW.lcmp (pc' := 127) at_126 rfl ?_
          refine OwnW.ifcN (pc' := 130) at_127 ((if0 _ _).trans (teq ((lw_eq _ _).mpr rfl)).2) rfl ?_
          refine OwnW.aload (pc' := 132) at_130 rfl (rfl) rfl ?_
          refine OwnW.iload (pc' := 134) at_132 rfl rfl ?_
          refine OwnW.iload (pc' := 136) at_134 rfl rfl ?_
          have F381 := (F370.keep K376 (ninS (by omega : @Ne Nat ad361 (ad362_0 + 2)) (ninS (by omega : @Ne Nat ad361 (ad362_1 + 2)) (ninS (by omega : @Ne Nat ad361 (ad362_2 + 2)) nin0))))
          have F382 := (F371.keep K376 (ninS (by omega : @Ne Nat ad362_1 (ad362_0 + 2)) (ninS (by omega : @Ne Nat ad362_1 (ad362_1 + 2)) (ninS (by omega : @Ne Nat ad362_1 (ad362_2 + 2)) nin0))))
          refine OwnW.callV0 (a0 := a0) (pc' := 139) (W := 0) (k' := 10) (n' := 21) (argsL := [(.int (1 : Int32)), (.int (0 : Int32))]) (rest := []) (St' := [(.long (f7_10 ad361 ad362_1 (ad362_1 + 1) (ad362_1 + 2) kc362_2 kc362_3 (9223372036854775807 : Int64) (9223372036854775807 : Int64)))]) at_136 (hw _ (List.mem_of_getElem? (i := 41) rfl)) (hw _ (List.mem_of_getElem? (i := 42) rfl)) (hw _ (List.mem_of_getElem? (i := 44) rfl)) (hw _ (List.mem_of_getElem? (i := 43) rfl)) (hw _ (List.mem_of_getElem? (i := 2) rfl)) (hw _ (List.mem_of_getElem? (i := 45) rfl)) (by decide) F380 (rm7_10 l Z a0 hw ad361 ad362_1 (ad362_1 + 1) (ad362_1 + 2) kc362_2 kc362_3 (9223372036854775807 : Int64) (9223372036854775807 : Int64) h376 n0 F381 F382 Fc376_1) (by decide) (by decide) rfl rfl (by decide) (by decide) rfl pd_28II29J rfl rfl rfl (Nat.le_of_ble_eq_true rfl) rfl rfl ?_
          refine OwnW.ldc2J (a0 := a0) (pc' := 142) (v := (9223372036854775807 : Int64)) at_139 (hw _ (List.mem_of_getElem? (i := 46) rfl)) rfl ?_
          refine OwnW.lcmp (pc' := 143) at_142 rfl ?_
          refine OwnW.ifcN (pc' := 146) at_143 ((if0 _ _).trans (teq ((lw_eq _ _).mpr rfl)).2) rfl ?_
          refine OwnW.aload (pc' := 148) at_146 rfl (rfl) rfl ?_
          refine OwnW.iload (pc' := 150) at_148 rfl rfl ?_
          refine OwnW.iload (pc' := 152) at_150 rfl rfl ?_
          have F383 := (Fc364_0.keep K376 (ninS (by omega : @Ne Nat (ad362_0 + 1) (ad362_0 + 2)) (ninS (by omega : @Ne Nat (ad362_0 + 1) (ad362_1 + 2)) (ninS (by omega : @Ne Nat (ad362_0 + 1) (ad362_2 + 2)) nin0))))
          refine OwnW.callV0 (a0 := a0) (pc' := 155) (W := 0) (k' := 10) (n' := 21) (argsL := [(.int (0 : Int32)), (.int (0 : Int32))]) (rest := []) (St' := [(.long (f6_00 ad361 ad362_0 (ad362_0 + 1) (ad362_0 + 2) kc362_0 kc362_1 lo2 (0 : Int64)))]) at_152 (hw _ (List.mem_of_getElem? (i := 36) rfl)) (hw _ (List.mem_of_getElem? (i := 37) rfl)) (hw _ (List.mem_of_getElem? (i := 39) rfl)) (hw _ (List.mem_of_getElem? (i := 38) rfl)) (hw _ (List.mem_of_getElem? (i := 2) rfl)) (hw _ (List.mem_of_getElem? (i := 40) rfl)) (by decide) F380 (rm6_00 l Z a0 hw ad361 ad362_0 (ad362_0 + 1) (ad362_0 + 2) kc362_0 kc362_1 lo2 (0 : Int64) h376 n0 F378 F379 F383) (by decide) (by decide) rfl rfl (by decide) (by decide) rfl pd_28II29J rfl rfl rfl (Nat.le_of_ble_eq_true rfl) rfl rfl ?_
          refine OwnW.lload (pc' := 157) at_155 rfl rfl ?_
          refine OwnW.lcmp (pc' := 158) at_157 rfl ?_
          refine OwnW.ifcN (pc' := 161) at_158 ((if0 _ _).trans (teq ((lw_eq _ _).mpr rfl)).2) rfl ?_
          refine OwnW.aload (pc' := 163) at_161 rfl (rfl) rfl ?_
          refine OwnW.iload (pc' := 165) at_163 rfl rfl ?_
          refine OwnW.iload (pc' := 167) at_165 rfl rfl ?_
          have F384 := (Fc364_1.keep K376 (ninS (by omega : @Ne Nat (ad362_1 + 1) (ad362_0 + 2)) (ninS (by omega : @Ne Nat (ad362_1 + 1) (ad362_1 + 2)) (ninS (by omega : @Ne Nat (ad362_1 + 1) (ad362_2 + 2)) nin0))))
          refine OwnW.callV0 (a0 := a0) (pc' := 170) (W := 0) (k' := 10) (n' := 21) (argsL := [(.int (0 : Int32)), (.int (0 : Int32))]) (rest := []) (St' := [(.long (f7_00 ad361 ad362_1 (ad362_1 + 1) (ad362_1 + 2) kc362_2 kc362_3 up2 (9223372036854775807 : Int64)))]) at_167 (hw _ (List.mem_of_getElem? (i := 41) rfl)) (hw _ (List.mem_of_getElem? (i := 42) rfl)) (hw _ (List.mem_of_getElem? (i := 44) rfl)) (hw _ (List.mem_of_getElem? (i := 43) rfl)) (hw _ (List.mem_of_getElem? (i := 2) rfl)) (hw _ (List.mem_of_getElem? (i := 45) rfl)) (by decide) F380 (rm7_00 l Z a0 hw ad361 ad362_1 (ad362_1 + 1) (ad362_1 + 2) kc362_2 kc362_3 up2 (9223372036854775807 : Int64) h376 n0 F381 F382 F384) (by decide) (by decide) rfl rfl (by decide) (by decide) rfl pd_28II29J rfl rfl rfl (Nat.le_of_ble_eq_true rfl) rfl rfl ?_
          refine OwnW.lload (pc' := 172) at_170 rfl rfl ?_
          refine OwnW.lcmp (pc' := 173) at_172 rfl ?_
          refine OwnW.ifcN (pc' := 176) at_173 ((if0 _ _).trans (teq ((lw_eq _ _).mpr rfl)).2) rfl ?_
          refine OwnW.iconst (pc' := 177) (v := (1 : Int32)) at_176 rfl rfl ?_
          refine OwnW.goto (pc' := 181) at_177 (by decide) (by decide) ?_
          exact OwnW.retN (t := .boolean) at_181 rfl (by simp) rfl (by decide) (by decide) (rfl)
        ·
          refine OwnW.ifcN (pc' := 79) at_76 ((if0 _ _).trans (feq hc76).1) rfl ?_
          refine OwnW.aload (pc' := 81) at_79 rfl (rfl) rfl ?_
          refine OwnW.iload (pc' := 83) at_81 rfl rfl ?_
          refine OwnW.iload (pc' := 85) at_83 rfl rfl ?_
          refine OwnW.lloadN (pc' := 86) at_85 rfl rfl ?_
          refine OwnW.lload (pc' := 88) at_86 rfl rfl ?_
          refine OwnW.aconstNull (pc' := 89) at_88 rfl ?_
          refine OwnW.callV (a0 := a0) (pc' := 92) (W := 0) (k' := 10) (n' := 21) (argsL := [(.int (1 : Int32)), (.int (0 : Int32)), (.long lo1), (.long up1), .null]) (rest := []) at_89 (hw _ (List.mem_of_getElem? (i := 26) rfl)) (hw _ (List.mem_of_getElem? (i := 27) rfl)) (hw _ (List.mem_of_getElem? (i := 29) rfl)) (hw _ (List.mem_of_getElem? (i := 28) rfl)) (hw _ (List.mem_of_getElem? (i := 2) rfl)) (hw _ (List.mem_of_getElem? (i := 30) rfl)) (by decide) Fc362_0 (rm4_10 l Z a0 hw ad361 lo1 up1 ad362_0 (ad362_0 + 1) (ad362_0 + 2) kc362_0 kc362_1 (0 : Int64) (0 : Int64) ad362_1 (ad362_1 + 1) (ad362_1 + 2) kc362_2 kc362_3 (9223372036854775807 : Int64) (9223372036854775807 : Int64) ad362_2 (ad362_2 + 1) (ad362_2 + 2) kc362_4 kc362_5 h362 n0 sz363 (Nat.le_trans ge_ad362_0 (Nat.le_add_right _ _)) (Nat.le_trans ge_ad362_1 (Nat.le_add_right _ _)) (Nat.le_trans ge_ad362_2 (Nat.le_add_right _ _)) Fc362_0 Fc362_1 Fc362_4 Fc362_6 Fc362_2 Fc362_7 Fc362_9 Fc362_3 Fc362_10 Fc362_12 (by omega : @Ne Nat (ad362_0 + 2) ad362_1) (by omega : @Ne Nat (ad362_0 + 2) (ad362_1 + 2)) (by omega : @Ne Nat (ad362_0 + 2) ad362_2) (by omega : @Ne Nat (ad362_0 + 2) (ad362_2 + 2)) (by omega : @Ne Nat (ad362_0 + 2) ad361) (by omega : @Ne Nat (ad362_0 + 2) ad362_0) (by omega : @Ne Nat (ad362_1 + 2) ad362_2) (by omega : @Ne Nat (ad362_1 + 2) (ad362_2 + 2)) (by omega : @Ne Nat (ad362_1 + 2) ad361) (by omega : @Ne Nat (ad362_1 + 2) ad362_0) (by omega : @Ne Nat (ad362_1 + 2) ad362_1) (by omega : @Ne Nat (ad362_2 + 2) ad361) (by omega : @Ne Nat (ad362_2 + 2) ad362_0) (by omega : @Ne Nat (ad362_2 + 2) ad362_1) (by omega : @Ne Nat (ad362_2 + 2) ad362_2)) (by decide) (by decide) rfl rfl (by decide) (by decide) rfl pd_28IIJJLcom2fexample2fparley2fparley2ftreesearch2fSubtreeAssignment3b29V rfl rfl rfl (Nat.le_of_ble_eq_true rfl) rfl ?_
          rintro h385 v385 ⟨rfl, K385, Fc385_0, Fc385_1, Fc385_2⟩
          have sz386 : n0 ≤ h385.size := Nat.le_trans sz363 K385.1
          show GoB0 l Z n0 OwnW.One1 h385 10 21 92 #[.val (.int sel), .val (.long est), .second, .val (.long lo1), .second, .val (.long up1), .second, .val (.long lo2), .second, .val (.long up2), .second, .val (.int (1 : Int32)), .val (.int (0 : Int32)), .val (.int (2 : Int32)), .val (.int (0 : Int32)), .val (.int (0 : Int32)), .val (.int (0 : Int32)), .val (.int sb), .val (.ref ad361)] []
          refine OwnW.aload (pc' := 94) at_92 rfl (rfl) rfl ?_
          refine OwnW.iload (pc' := 96) at_94 rfl rfl ?_
          refine OwnW.iload (pc' := 98) at_96 rfl rfl ?_
          refine OwnW.lload (pc' := 100) at_98 rfl rfl ?_
          refine OwnW.lload (pc' := 102) at_100 rfl rfl ?_
          refine OwnW.aconstNull (pc' := 103) at_102 rfl ?_
          have F387 := (Fc362_0.keep K385)
          have F388 := (Fc362_1.keep K385 (ninS (by omega : @Ne Nat ad361 (ad362_0 + 2)) (ninS (by omega : @Ne Nat ad361 (ad362_1 + 2)) (ninS (by omega : @Ne Nat ad361 (ad362_2 + 2)) nin0))))
          have F389 := (Fc362_4.keep K385 (ninS (by omega : @Ne Nat ad362_0 (ad362_0 + 2)) (ninS (by omega : @Ne Nat ad362_0 (ad362_1 + 2)) (ninS (by omega : @Ne Nat ad362_0 (ad362_2 + 2)) nin0))))
          have F390 := (Fc362_5.keep K385 (ninS (by omega : @Ne Nat (ad362_0 + 1) (ad362_0 + 2)) (ninS (by omega : @Ne Nat (ad362_0 + 1) (ad362_1 + 2)) (ninS (by omega : @Ne Nat (ad362_0 + 1) (ad362_2 + 2)) nin0))))
          have F391 := (Fc362_2.keep K385 (ninS (by omega : @Ne Nat ad361 (ad362_0 + 2)) (ninS (by omega : @Ne Nat ad361 (ad362_1 + 2)) (ninS (by omega : @Ne Nat ad361 (ad362_2 + 2)) nin0))))
          have F392 := (Fc362_7.keep K385 (ninS (by omega : @Ne Nat ad362_1 (ad362_0 + 2)) (ninS (by omega : @Ne Nat ad362_1 (ad362_1 + 2)) (ninS (by omega : @Ne Nat ad362_1 (ad362_2 + 2)) nin0))))
          have F393 := (Fc362_8.keep K385 (ninS (by omega : @Ne Nat (ad362_1 + 1) (ad362_0 + 2)) (ninS (by omega : @Ne Nat (ad362_1 + 1) (ad362_1 + 2)) (ninS (by omega : @Ne Nat (ad362_1 + 1) (ad362_2 + 2)) nin0))))
          have F394 := (Fc362_3.keep K385 (ninS (by omega : @Ne Nat ad361 (ad362_0 + 2)) (ninS (by omega : @Ne Nat ad361 (ad362_1 + 2)) (ninS (by omega : @Ne Nat ad361 (ad362_2 + 2)) nin0))))
          have F395 := (Fc362_10.keep K385 (ninS (by omega : @Ne Nat ad362_2 (ad362_0 + 2)) (ninS (by omega : @Ne Nat ad362_2 (ad362_1 + 2)) (ninS (by omega : @Ne Nat ad362_2 (ad362_2 + 2)) nin0))))
          have F396 := (Fc362_11.keep K385 (ninS (by omega : @Ne Nat (ad362_2 + 1) (ad362_0 + 2)) (ninS (by omega : @Ne Nat (ad362_2 + 1) (ad362_1 + 2)) (ninS (by omega : @Ne Nat (ad362_2 + 1) (ad362_2 + 2)) nin0))))
          refine OwnW.callV (a0 := a0) (pc' := 106) (W := 0) (k' := 10) (n' := 21) (argsL := [(.int (0 : Int32)), (.int (0 : Int32)), (.long lo2), (.long up2), .null]) (rest := []) at_103 (hw _ (List.mem_of_getElem? (i := 26) rfl)) (hw _ (List.mem_of_getElem? (i := 27) rfl)) (hw _ (List.mem_of_getElem? (i := 29) rfl)) (hw _ (List.mem_of_getElem? (i := 28) rfl)) (hw _ (List.mem_of_getElem? (i := 2) rfl)) (hw _ (List.mem_of_getElem? (i := 30) rfl)) (by decide) F387 (rm4_00 l Z a0 hw ad361 lo2 up2 ad362_0 (ad362_0 + 1) (ad362_0 + 2) kc362_0 kc362_1 (0 : Int64) (0 : Int64) ad362_1 (ad362_1 + 1) (ad362_1 + 2) kc362_2 kc362_3 (9223372036854775807 : Int64) (9223372036854775807 : Int64) ad362_2 (ad362_2 + 1) (ad362_2 + 2) kc362_4 kc362_5 h385 n0 sz386 (Nat.le_trans ge_ad362_0 (Nat.le_add_right _ _)) (Nat.le_trans ge_ad362_1 (Nat.le_add_right _ _)) (Nat.le_trans ge_ad362_2 (Nat.le_add_right _ _)) F387 F388 F389 F390 F391 F392 F393 F394 F395 F396 (by omega : @Ne Nat (ad362_0 + 1) ad362_1) (by omega : @Ne Nat (ad362_0 + 1) (ad362_1 + 1)) (by omega : @Ne Nat (ad362_0 + 1) ad362_2) (by omega : @Ne Nat (ad362_0 + 1) (ad362_2 + 1)) (by omega : @Ne Nat (ad362_0 + 1) ad361) (by omega : @Ne Nat (ad362_0 + 1) ad362_0) (by omega : @Ne Nat (ad362_1 + 1) ad362_2) (by omega : @Ne Nat (ad362_1 + 1) (ad362_2 + 1)) (by omega : @Ne Nat (ad362_1 + 1) ad361) (by omega : @Ne Nat (ad362_1 + 1) ad362_0) (by omega : @Ne Nat (ad362_1 + 1) ad362_1) (by omega : @Ne Nat (ad362_2 + 1) ad361) (by omega : @Ne Nat (ad362_2 + 1) ad362_0) (by omega : @Ne Nat (ad362_2 + 1) ad362_1) (by omega : @Ne Nat (ad362_2 + 1) ad362_2)) (by decide) (by decide) rfl rfl (by decide) (by decide) rfl pd_28IIJJLcom2fexample2fparley2fparley2ftreesearch2fSubtreeAssignment3b29V rfl rfl rfl (Nat.le_of_ble_eq_true rfl) rfl ?_
          rintro h397 v397 ⟨rfl, K397, Fc397_0, Fc397_1, Fc397_2⟩
          have sz398 : n0 ≤ h397.size := Nat.le_trans sz386 K397.1
          show GoB0 l Z n0 OwnW.One1 h397 10 21 106 #[.val (.int sel), .val (.long est), .second, .val (.long lo1), .second, .val (.long up1), .second, .val (.long lo2), .second, .val (.long up2), .second, .val (.int (1 : Int32)), .val (.int (0 : Int32)), .val (.int (2 : Int32)), .val (.int (0 : Int32)), .val (.int (0 : Int32)), .val (.int (0 : Int32)), .val (.int sb), .val (.ref ad361)] []
          refine OwnW.aload (pc' := 108) at_106 rfl (rfl) rfl ?_
          refine OwnW.iload (pc' := 110) at_108 rfl rfl ?_
          refine OwnW.iload (pc' := 112) at_110 rfl rfl ?_
          refine OwnW.lloadN (pc' := 113) at_112 rfl rfl ?_
          have F399 := (F387.keep K397)
          have F400 := (F388.keep K397 (ninS (by omega : @Ne Nat ad361 (ad362_0 + 1)) (ninS (by omega : @Ne Nat ad361 (ad362_1 + 1)) (ninS (by omega : @Ne Nat ad361 (ad362_2 + 1)) nin0))))
          have F401 := (F389.keep K397 (ninS (by omega : @Ne Nat ad362_0 (ad362_0 + 1)) (ninS (by omega : @Ne Nat ad362_0 (ad362_1 + 1)) (ninS (by omega : @Ne Nat ad362_0 (ad362_2 + 1)) nin0))))
          have F402 := (Fc385_0.keep K397 (ninS (by omega : @Ne Nat (ad362_0 + 2) (ad362_0 + 1)) (ninS (by omega : @Ne Nat (ad362_0 + 2) (ad362_1 + 1)) (ninS (by omega : @Ne Nat (ad362_0 + 2) (ad362_2 + 1)) nin0))))
          have F403 := (F391.keep K397 (ninS (by omega : @Ne Nat ad361 (ad362_0 + 1)) (ninS (by omega : @Ne Nat ad361 (ad362_1 + 1)) (ninS (by omega : @Ne Nat ad361 (ad362_2 + 1)) nin0))))
          have F404 := (F392.keep K397 (ninS (by omega : @Ne Nat ad362_1 (ad362_0 + 1)) (ninS (by omega : @Ne Nat ad362_1 (ad362_1 + 1)) (ninS (by omega : @Ne Nat ad362_1 (ad362_2 + 1)) nin0))))
          have F405 := (Fc385_1.keep K397 (ninS (by omega : @Ne Nat (ad362_1 + 2) (ad362_0 + 1)) (ninS (by omega : @Ne Nat (ad362_1 + 2) (ad362_1 + 1)) (ninS (by omega : @Ne Nat (ad362_1 + 2) (ad362_2 + 1)) nin0))))
          have F406 := (F394.keep K397 (ninS (by omega : @Ne Nat ad361 (ad362_0 + 1)) (ninS (by omega : @Ne Nat ad361 (ad362_1 + 1)) (ninS (by omega : @Ne Nat ad361 (ad362_2 + 1)) nin0))))
          have F407 := (F395.keep K397 (ninS (by omega : @Ne Nat ad362_2 (ad362_0 + 1)) (ninS (by omega : @Ne Nat ad362_2 (ad362_1 + 1)) (ninS (by omega : @Ne Nat ad362_2 (ad362_2 + 1)) nin0))))
          have F408 := (Fc385_2.keep K397 (ninS (by omega : @Ne Nat (ad362_2 + 2) (ad362_0 + 1)) (ninS (by omega : @Ne Nat (ad362_2 + 2) (ad362_1 + 1)) (ninS (by omega : @Ne Nat (ad362_2 + 2) (ad362_2 + 1)) nin0))))
          refine OwnW.callV (a0 := a0) (pc' := 116) (W := 0) (k' := 10) (n' := 21) (argsL := [(.int (1 : Int32)), (.int (0 : Int32)), (.long est)]) (rest := []) at_113 (hw _ (List.mem_of_getElem? (i := 31) rfl)) (hw _ (List.mem_of_getElem? (i := 32) rfl)) (hw _ (List.mem_of_getElem? (i := 34) rfl)) (hw _ (List.mem_of_getElem? (i := 33) rfl)) (hw _ (List.mem_of_getElem? (i := 2) rfl)) (hw _ (List.mem_of_getElem? (i := 35) rfl)) (by decide) F399 (rm5_10 l Z a0 hw ad361 est ad362_0 (ad362_0 + 1) (ad362_0 + 2) kc362_0 kc362_1 lo1 (0 : Int64) ad362_1 (ad362_1 + 1) (ad362_1 + 2) kc362_2 kc362_3 up1 (9223372036854775807 : Int64) ad362_2 (ad362_2 + 1) (ad362_2 + 2) kc362_4 kc362_5 h397 n0 sz398 (Nat.le_trans ge_ad362_0 (Nat.le_add_right _ _)) (Nat.le_trans ge_ad362_1 (Nat.le_add_right _ _)) (Nat.le_trans ge_ad362_2 (Nat.le_add_right _ _)) F399 F400 F401 F402 F403 F404 F405 F406 F407 F408 (by omega : @Ne Nat (ad362_0 + 2) ad362_1) (by omega : @Ne Nat (ad362_0 + 2) (ad362_1 + 2)) (by omega : @Ne Nat (ad362_0 + 2) ad362_2) (by omega : @Ne Nat (ad362_0 + 2) (ad362_2 + 2)) (by omega : @Ne Nat (ad362_0 + 2) ad361) (by omega : @Ne Nat (ad362_0 + 2) ad362_0) (by omega : @Ne Nat (ad362_1 + 2) ad362_2) (by omega : @Ne Nat (ad362_1 + 2) (ad362_2 + 2)) (by omega : @Ne Nat (ad362_1 + 2) ad361) (by omega : @Ne Nat (ad362_1 + 2) ad362_0) (by omega : @Ne Nat (ad362_1 + 2) ad362_1) (by omega : @Ne Nat (ad362_2 + 2) ad361) (by omega : @Ne Nat (ad362_2 + 2) ad362_0) (by omega : @Ne Nat (ad362_2 + 2) ad362_1) (by omega : @Ne Nat (ad362_2 + 2) ad362_2)) (by decide) (by decide) rfl rfl (by decide) (by decide) rfl pd_28IIJ29V rfl rfl rfl (Nat.le_of_ble_eq_true rfl) rfl ?_
          rintro h409 v409 ⟨rfl, K409, Fc409_0, Fc409_1, Fc409_2⟩
          have sz410 : n0 ≤ h409.size := Nat.le_trans sz398 K409.1
          show GoB0 l Z n0 OwnW.One1 h409 10 21 116 #[.val (.int sel), .val (.long est), .second, .val (.long lo1), .second, .val (.long up1), .second, .val (.long lo2), .second, .val (.long up2), .second, .val (.int (1 : Int32)), .val (.int (0 : Int32)), .val (.int (2 : Int32)), .val (.int (0 : Int32)), .val (.int (0 : Int32)), .val (.int (0 : Int32)), .val (.int sb), .val (.ref ad361)] []
          refine OwnW.aload (pc' := 118) at_116 rfl (rfl) rfl ?_
          refine OwnW.iload (pc' := 120) at_118 rfl rfl ?_
          refine OwnW.iload (pc' := 122) at_120 rfl rfl ?_
          have F411 := (F400.keep K409 (ninS (by omega : @Ne Nat ad361 (ad362_0 + 2)) (ninS (by omega : @Ne Nat ad361 (ad362_1 + 2)) (ninS (by omega : @Ne Nat ad361 (ad362_2 + 2)) nin0))))
          have F412 := (F401.keep K409 (ninS (by omega : @Ne Nat ad362_0 (ad362_0 + 2)) (ninS (by omega : @Ne Nat ad362_0 (ad362_1 + 2)) (ninS (by omega : @Ne Nat ad362_0 (ad362_2 + 2)) nin0))))
          have F413 := (F399.keep K409)
          refine OwnW.callV0 (a0 := a0) (pc' := 125) (W := 0) (k' := 10) (n' := 21) (argsL := [(.int (1 : Int32)), (.int (0 : Int32))]) (rest := []) (St' := [(.long (f6_10 ad361 ad362_0 (ad362_0 + 1) (ad362_0 + 2) kc362_0 kc362_1 est (0 : Int64)))]) at_122 (hw _ (List.mem_of_getElem? (i := 36) rfl)) (hw _ (List.mem_of_getElem? (i := 37) rfl)) (hw _ (List.mem_of_getElem? (i := 39) rfl)) (hw _ (List.mem_of_getElem? (i := 38) rfl)) (hw _ (List.mem_of_getElem? (i := 2) rfl)) (hw _ (List.mem_of_getElem? (i := 40) rfl)) (by decide) F413 (rm6_10 l Z a0 hw ad361 ad362_0 (ad362_0 + 1) (ad362_0 + 2) kc362_0 kc362_1 est (0 : Int64) h409 n0 F411 F412 Fc409_0) (by decide) (by decide) rfl rfl (by decide) (by decide) rfl pd_28II29J rfl rfl rfl (Nat.le_of_ble_eq_true rfl) rfl rfl ?_
          refine OwnW.lloadN (pc' := 126) at_125 rfl rfl ?_
          refine OwnW.lcmp (pc' := 127) at_126 rfl ?_
          refine OwnW.ifcN (pc' := 130) at_127 ((if0 _ _).trans (teq ((lw_eq _ _).mpr rfl)).2) rfl ?_
          refine OwnW.aload (pc' := 132) at_130 rfl (rfl) rfl ?_
          refine OwnW.iload (pc' := 134) at_132 rfl rfl ?_
          refine OwnW.iload (pc' := 136) at_134 rfl rfl ?_
          have F414 := (F403.keep K409 (ninS (by omega : @Ne Nat ad361 (ad362_0 + 2)) (ninS (by omega : @Ne Nat ad361 (ad362_1 + 2)) (ninS (by omega : @Ne Nat ad361 (ad362_2 + 2)) nin0))))
          have F415 := (F404.keep K409 (ninS (by omega : @Ne Nat ad362_1 (ad362_0 + 2)) (ninS (by omega : @Ne Nat ad362_1 (ad362_1 + 2)) (ninS (by omega : @Ne Nat ad362_1 (ad362_2 + 2)) nin0))))
          refine OwnW.callV0 (a0 := a0) (pc' := 139) (W := 0) (k' := 10) (n' := 21) (argsL := [(.int (1 : Int32)), (.int (0 : Int32))]) (rest := []) (St' := [(.long (f7_10 ad361 ad362_1 (ad362_1 + 1) (ad362_1 + 2) kc362_2 kc362_3 (9223372036854775807 : Int64) (9223372036854775807 : Int64)))]) at_136 (hw _ (List.mem_of_getElem? (i := 41) rfl)) (hw _ (List.mem_of_getElem? (i := 42) rfl)) (hw _ (List.mem_of_getElem? (i := 44) rfl)) (hw _ (List.mem_of_getElem? (i := 43) rfl)) (hw _ (List.mem_of_getElem? (i := 2) rfl)) (hw _ (List.mem_of_getElem? (i := 45) rfl)) (by decide) F413 (rm7_10 l Z a0 hw ad361 ad362_1 (ad362_1 + 1) (ad362_1 + 2) kc362_2 kc362_3 (9223372036854775807 : Int64) (9223372036854775807 : Int64) h409 n0 F414 F415 Fc409_1) (by decide) (by decide) rfl rfl (by decide) (by decide) rfl pd_28II29J rfl rfl rfl (Nat.le_of_ble_eq_true rfl) rfl rfl ?_
          refine OwnW.ldc2J (a0 := a0) (pc' := 142) (v := (9223372036854775807 : Int64)) at_139 (hw _ (List.mem_of_getElem? (i := 46) rfl)) rfl ?_
          refine OwnW.lcmp (pc' := 143) at_142 rfl ?_
          refine OwnW.ifcN (pc' := 146) at_143 ((if0 _ _).trans (teq ((lw_eq _ _).mpr rfl)).2) rfl ?_
          refine OwnW.aload (pc' := 148) at_146 rfl (rfl) rfl ?_
          refine OwnW.iload (pc' := 150) at_148 rfl rfl ?_
          refine OwnW.iload (pc' := 152) at_150 rfl rfl ?_
          have F416 := (Fc397_0.keep K409 (ninS (by omega : @Ne Nat (ad362_0 + 1) (ad362_0 + 2)) (ninS (by omega : @Ne Nat (ad362_0 + 1) (ad362_1 + 2)) (ninS (by omega : @Ne Nat (ad362_0 + 1) (ad362_2 + 2)) nin0))))
          refine OwnW.callV0 (a0 := a0) (pc' := 155) (W := 0) (k' := 10) (n' := 21) (argsL := [(.int (0 : Int32)), (.int (0 : Int32))]) (rest := []) (St' := [(.long (f6_00 ad361 ad362_0 (ad362_0 + 1) (ad362_0 + 2) kc362_0 kc362_1 lo2 (0 : Int64)))]) at_152 (hw _ (List.mem_of_getElem? (i := 36) rfl)) (hw _ (List.mem_of_getElem? (i := 37) rfl)) (hw _ (List.mem_of_getElem? (i := 39) rfl)) (hw _ (List.mem_of_getElem? (i := 38) rfl)) (hw _ (List.mem_of_getElem? (i := 2) rfl)) (hw _ (List.mem_of_getElem? (i := 40) rfl)) (by decide) F413 (rm6_00 l Z a0 hw ad361 ad362_0 (ad362_0 + 1) (ad362_0 + 2) kc362_0 kc362_1 lo2 (0 : Int64) h409 n0 F411 F412 F416) (by decide) (by decide) rfl rfl (by decide) (by decide) rfl pd_28II29J rfl rfl rfl (Nat.le_of_ble_eq_true rfl) rfl rfl ?_
          refine OwnW.lload (pc' := 157) at_155 rfl rfl ?_
          refine OwnW.lcmp (pc' := 158) at_157 rfl ?_
          refine OwnW.ifcN (pc' := 161) at_158 ((if0 _ _).trans (teq ((lw_eq _ _).mpr rfl)).2) rfl ?_
          refine OwnW.aload (pc' := 163) at_161 rfl (rfl) rfl ?_
          refine OwnW.iload (pc' := 165) at_163 rfl rfl ?_
          refine OwnW.iload (pc' := 167) at_165 rfl rfl ?_
          have F417 := (Fc397_1.keep K409 (ninS (by omega : @Ne Nat (ad362_1 + 1) (ad362_0 + 2)) (ninS (by omega : @Ne Nat (ad362_1 + 1) (ad362_1 + 2)) (ninS (by omega : @Ne Nat (ad362_1 + 1) (ad362_2 + 2)) nin0))))
          refine OwnW.callV0 (a0 := a0) (pc' := 170) (W := 0) (k' := 10) (n' := 21) (argsL := [(.int (0 : Int32)), (.int (0 : Int32))]) (rest := []) (St' := [(.long (f7_00 ad361 ad362_1 (ad362_1 + 1) (ad362_1 + 2) kc362_2 kc362_3 up2 (9223372036854775807 : Int64)))]) at_167 (hw _ (List.mem_of_getElem? (i := 41) rfl)) (hw _ (List.mem_of_getElem? (i := 42) rfl)) (hw _ (List.mem_of_getElem? (i := 44) rfl)) (hw _ (List.mem_of_getElem? (i := 43) rfl)) (hw _ (List.mem_of_getElem? (i := 2) rfl)) (hw _ (List.mem_of_getElem? (i := 45) rfl)) (by decide) F413 (rm7_00 l Z a0 hw ad361 ad362_1 (ad362_1 + 1) (ad362_1 + 2) kc362_2 kc362_3 up2 (9223372036854775807 : Int64) h409 n0 F414 F415 F417) (by decide) (by decide) rfl rfl (by decide) (by decide) rfl pd_28II29J rfl rfl rfl (Nat.le_of_ble_eq_true rfl) rfl rfl ?_
          refine OwnW.lload (pc' := 172) at_170 rfl rfl ?_
          refine OwnW.lcmp (pc' := 173) at_172 rfl ?_
          refine OwnW.ifcN (pc' := 176) at_173 ((if0 _ _).trans (teq ((lw_eq _ _).mpr rfl)).2) rfl ?_
          refine OwnW.iconst (pc' := 177) (v := (1 : Int32)) at_176 rfl rfl ?_
          refine OwnW.goto (pc' := 181) at_177 (by decide) (by decide) ?_
          exact OwnW.retN (t := .boolean) at_181 rfl (by simp) rfl (by decide) (by decide) (rfl)
      ·
        show GoB0 l Z n0 OwnW.One1 h0 0 0 32 #[.val (.int sel), .val (.long est), .second, .val (.long lo1), .second, .val (.long up1), .second, .val (.long lo2), .second, .val (.long up2), .second, .val (.int (1 : Int32)), .val (.int (0 : Int32)), .val (.int (2 : Int32)), .unset, .unset, .unset, .unset, .unset] [(.int (2 : Int32)), (.int (3 : Int32))]
        refine OwnW.iadd (pc' := 33) at_32 rfl ?_
        show GoB0 l Z n0 OwnW.One1 h0 0 0 33 #[.val (.int sel), .val (.long est), .second, .val (.long lo1), .second, .val (.long up1), .second, .val (.long lo2), .second, .val (.long up2), .second, .val (.int (1 : Int32)), .val (.int (0 : Int32)), .val (.int (2 : Int32)), .unset, .unset, .unset, .unset, .unset] [(.int (5 : Int32))]
        refine OwnW.iconst (pc' := 34) (v := (3 : Int32)) at_33 rfl rfl ?_
        refine OwnW.iand (pc' := 35) at_34 rfl ?_
        show GoB0 l Z n0 OwnW.One1 h0 0 0 35 #[.val (.int sel), .val (.long est), .second, .val (.long lo1), .second, .val (.long up1), .second, .val (.long lo2), .second, .val (.long up2), .second, .val (.int (1 : Int32)), .val (.int (0 : Int32)), .val (.int (2 : Int32)), .unset, .unset, .unset, .unset, .unset] [(.int (1 : Int32))]
        refine OwnW.istore (pc' := 37) (L' := #[.val (.int sel), .val (.long est), .second, .val (.long lo1), .second, .val (.long up1), .second, .val (.long lo2), .second, .val (.long up2), .second, .val (.int (1 : Int32)), .val (.int (0 : Int32)), .val (.int (2 : Int32)), .val (.int (1 : Int32)), .unset, .unset, .unset, .unset]) at_35 rfl rfl ?_
        refine OwnW.iload (pc' := 39) at_37 rfl rfl ?_
        refine OwnW.iconst (pc' := 40) (v := (1 : Int32)) at_39 rfl rfl ?_
        refine OwnW.ishr (pc' := 41) at_40 rfl ?_
        show GoB0 l Z n0 OwnW.One1 h0 0 0 41 #[.val (.int sel), .val (.long est), .second, .val (.long lo1), .second, .val (.long up1), .second, .val (.long lo2), .second, .val (.long up2), .second, .val (.int (1 : Int32)), .val (.int (0 : Int32)), .val (.int (2 : Int32)), .val (.int (1 : Int32)), .unset, .unset, .unset, .unset] [(.int (0 : Int32))]
        refine OwnW.istore (pc' := 43) (L' := #[.val (.int sel), .val (.long est), .second, .val (.long lo1), .second, .val (.long up1), .second, .val (.long lo2), .second, .val (.long up2), .second, .val (.int (1 : Int32)), .val (.int (0 : Int32)), .val (.int (2 : Int32)), .val (.int (1 : Int32)), .val (.int (0 : Int32)), .unset, .unset, .unset]) at_41 rfl rfl ?_
        refine OwnW.iload (pc' := 45) at_43 rfl rfl ?_
        refine OwnW.iconst (pc' := 46) (v := (1 : Int32)) at_45 rfl rfl ?_
        refine OwnW.iand (pc' := 47) at_46 rfl ?_
        show GoB0 l Z n0 OwnW.One1 h0 0 0 47 #[.val (.int sel), .val (.long est), .second, .val (.long lo1), .second, .val (.long up1), .second, .val (.long lo2), .second, .val (.long up2), .second, .val (.int (1 : Int32)), .val (.int (0 : Int32)), .val (.int (2 : Int32)), .val (.int (1 : Int32)), .val (.int (0 : Int32)), .unset, .unset, .unset] [(.int (1 : Int32))]
        refine OwnW.istore (pc' := 49) (L' := #[.val (.int sel), .val (.long est), .second, .val (.long lo1), .second, .val (.long up1), .second, .val (.long lo2), .second, .val (.long up2), .second, .val (.int (1 : Int32)), .val (.int (0 : Int32)), .val (.int (2 : Int32)), .val (.int (1 : Int32)), .val (.int (0 : Int32)), .val (.int (1 : Int32)), .unset, .unset]) at_47 rfl rfl ?_
        refine OwnW.iloadN (pc' := 50) at_49 rfl rfl ?_
        refine OwnW.bipush (pc' := 52) (v := (16 : Int32)) at_50 rfl rfl ?_
        refine OwnW.iand (pc' := 53) at_52 rfl ?_
        suffices J53_61 : ∀ (sb : Int32), sb = (if (sel &&& (16 : Int32)) = (0 : Int32) then (0 : Int32) else (1 : Int32)) → GoB0 l Z n0 OwnW.One1 h0 0 0 61 #[.val (.int sel), .val (.long est), .second, .val (.long lo1), .second, .val (.long up1), .second, .val (.long lo2), .second, .val (.long up2), .second, .val (.int (1 : Int32)), .val (.int (0 : Int32)), .val (.int (2 : Int32)), .val (.int (1 : Int32)), .val (.int (0 : Int32)), .val (.int (1 : Int32)), .unset, .unset] [(.int sb)] by
          by_cases hc53 : (sel &&& (16 : Int32)) = (0 : Int32)
          ·
            refine OwnW.ifcY (pc' := 60) at_53 ((if0 _ _).trans (teq hc53).1) (by decide) (by decide) ?_
            refine OwnW.iconst (pc' := 61) (v := (0 : Int32)) at_60 rfl rfl ?_
            exact J53_61 _ (by first | simp only [if_pos hc53] | rfl)
          ·
            refine OwnW.ifcN (pc' := 56) at_53 ((if0 _ _).trans (feq hc53).1) rfl ?_
            refine OwnW.iconst (pc' := 57) (v := (1 : Int32)) at_56 rfl rfl ?_
            refine OwnW.goto (pc' := 61) at_57 (by decide) (by decide) ?_
            exact J53_61 _ (by first | simp only [if_neg hc53] | rfl)
        intro sb hsb
        refine OwnW.istore (pc' := 63) (L' := #[.val (.int sel), .val (.long est), .second, .val (.long lo1), .second, .val (.long up1), .second, .val (.long lo2), .second, .val (.long up2), .second, .val (.int (1 : Int32)), .val (.int (0 : Int32)), .val (.int (2 : Int32)), .val (.int (1 : Int32)), .val (.int (0 : Int32)), .val (.int (1 : Int32)), .val (.int sb), .unset]) at_61 rfl rfl ?_
        refine OwnW.newO (a0 := a0) (pc' := 66) (k' := 1) (n' := 3) at_63 (hw _ (List.mem_of_getElem? (i := 0) rfl)) (hw _ (List.mem_of_getElem? (i := 1) rfl)) (hw _ (List.mem_of_getElem? (i := 2) rfl)) rfl rfl (by decide) (by decide) rfl ?_
        intro h418 ad418 g418 E418 A418 D418
        have ge_ad418 : n0 ≤ ad418 := Nat.le_trans Z0 (Nat.le_of_eq g418.symm)
        have sz_ad418 : n0 ≤ h418.size := Nat.le_trans Z0 E418.1
        have F418_lower : Fld Z h418 ad418 "com/example/parley/parley/treesearch/ChildBounds" "lower" "[[J" .null := D418 (Or.inr (hw _ (List.mem_of_getElem? (i := 13) rfl))) (ty := (.array (.array .long))) (by decide)
        have F418_upper : Fld Z h418 ad418 "com/example/parley/parley/treesearch/ChildBounds" "upper" "[[J" .null := D418 (Or.inr (hw _ (List.mem_of_getElem? (i := 15) rfl))) (ty := (.array (.array .long))) (by decide)
        have F418_assignments : Fld Z h418 ad418 "com/example/parley/parley/treesearch/ChildBounds" "assignments" "[[Lcom/example/parley/parley/treesearch/SubtreeAssignment;" .null := D418 (Or.inr (hw _ (List.mem_of_getElem? (i := 20) rfl))) (ty := (.array (.array (.object "com/example/parley/parley/treesearch/SubtreeAssignment")))) (by decide)
        refine OwnW.dup (pc' := 67) at_66 rfl rfl ?_
        refine OwnW.iconst (pc' := 68) (v := (2 : Int32)) at_67 rfl rfl ?_
        refine OwnW.iconst (pc' := 69) (v := (2 : Int32)) at_68 rfl rfl ?_
        refine OwnW.callI (a0 := a0) (pc' := 72) (W := 1) (k' := 10) (n' := 21) (argsL := [(.int (2 : Int32)), (.int (2 : Int32))]) (rest := [(.ref ad418)]) at_69 rfl (hw _ (List.mem_of_getElem? (i := 3) rfl)) (hw _ (List.mem_of_getElem? (i := 4) rfl)) (hw _ (List.mem_of_getElem? (i := 2) rfl)) (hw _ (List.mem_of_getElem? (i := 5) rfl)) (by decide) (rm1 l Z a0 hw ad418 h418 n0 sz_ad418 ge_ad418 A418 F418_lower F418_upper F418_assignments) (by decide) (by decide) rfl rfl (by decide) (by decide) rfl pd_28II29V rfl rfl rfl (Nat.le_of_ble_eq_true rfl) rfl ?_
        rintro h419 v419 ⟨ad419_0, ad419_1, ad419_2, kc419_0, kc419_1, kc419_2, kc419_3, kc419_4, kc419_5, rfl, K419, gl419_0, gl419_1, gl419_2, nn419_0_1, nn419_0_2, nn419_1_2, pp419_0, pp419_1, Fc419_0, Fc419_1, Fc419_2, Fc419_3, Fc419_4, Fc419_5, Fc419_6, Fc419_7, Fc419_8, Fc419_9, Fc419_10, Fc419_11, Fc419_12, Fc419_13⟩
        have lt_ad418_ad419_0 : @LT.lt Nat _ ad418 ad419_0 := Nat.lt_of_lt_of_le (A418).lt gl419_0
        have ge_ad419_0 : n0 ≤ ad419_0 := Nat.le_trans sz_ad418 gl419_0
        have lt_ad418_ad419_1 : @LT.lt Nat _ ad418 ad419_1 := Nat.lt_of_lt_of_le (A418).lt gl419_1
        have ge_ad419_1 : n0 ≤ ad419_1 := Nat.le_trans sz_ad418 gl419_1
        have lt_ad418_ad419_2 : @LT.lt Nat _ ad418 ad419_2 := Nat.lt_of_lt_of_le (A418).lt gl419_2
        have ge_ad419_2 : n0 ≤ ad419_2 := Nat.le_trans sz_ad418 gl419_2
        have sz420 : n0 ≤ h419.size := Nat.le_trans sz_ad418 K419.1
        show GoB0 l Z n0 OwnW.One1 h419 10 21 72 #[.val (.int sel), .val (.long est), .second, .val (.long lo1), .second, .val (.long up1), .second, .val (.long lo2), .second, .val (.long up2), .second, .val (.int (1 : Int32)), .val (.int (0 : Int32)), .val (.int (2 : Int32)), .val (.int (1 : Int32)), .val (.int (0 : Int32)), .val (.int (1 : Int32)), .val (.int sb), .unset] [(.ref ad418)]
        refine OwnW.astore (pc' := 74) (L' := #[.val (.int sel), .val (.long est), .second, .val (.long lo1), .second, .val (.long up1), .second, .val (.long lo2), .second, .val (.long up2), .second, .val (.int (1 : Int32)), .val (.int (0 : Int32)), .val (.int (2 : Int32)), .val (.int (1 : Int32)), .val (.int (0 : Int32)), .val (.int (1 : Int32)), .val (.int sb), .val (.ref ad418)]) at_72 (rfl) rfl rfl ?_
        refine OwnW.iload (pc' := 76) at_74 rfl rfl ?_
        by_cases hc76 : sb = (0 : Int32)
        ·
          refine OwnW.ifcY (pc' := 92) at_76 ((if0 _ _).trans (teq hc76).1) (by decide) (by decide) ?_
          refine OwnW.aload (pc' := 94) at_92 rfl (rfl) rfl ?_
          refine OwnW.iload (pc' := 96) at_94 rfl rfl ?_
          refine OwnW.iload (pc' := 98) at_96 rfl rfl ?_
          refine OwnW.lload (pc' := 100) at_98 rfl rfl ?_
          refine OwnW.lload (pc' := 102) at_100 rfl rfl ?_
          refine OwnW.aconstNull (pc' := 103) at_102 rfl ?_
          refine OwnW.callV (a0 := a0) (pc' := 106) (W := 0) (k' := 10) (n' := 21) (argsL := [(.int (0 : Int32)), (.int (1 : Int32)), (.long lo2), (.long up2), .null]) (rest := []) at_103 (hw _ (List.mem_of_getElem? (i := 26) rfl)) (hw _ (List.mem_of_getElem? (i := 27) rfl)) (hw _ (List.mem_of_getElem? (i := 29) rfl)) (hw _ (List.mem_of_getElem? (i := 28) rfl)) (hw _ (List.mem_of_getElem? (i := 2) rfl)) (hw _ (List.mem_of_getElem? (i := 30) rfl)) (by decide) Fc419_0 (rm4_01 l Z a0 hw ad418 lo2 up2 ad419_0 (ad419_0 + 1) (ad419_0 + 2) kc419_0 kc419_1 (0 : Int64) (0 : Int64) ad419_1 (ad419_1 + 1) (ad419_1 + 2) kc419_2 kc419_3 (9223372036854775807 : Int64) (9223372036854775807 : Int64) ad419_2 (ad419_2 + 1) (ad419_2 + 2) kc419_4 kc419_5 h419 n0 sz420 (Nat.le_trans ge_ad419_0 (Nat.le_add_right _ _)) (Nat.le_trans ge_ad419_1 (Nat.le_add_right _ _)) (Nat.le_trans ge_ad419_2 (Nat.le_add_right _ _)) Fc419_0 Fc419_1 Fc419_4 Fc419_5 Fc419_2 Fc419_7 Fc419_8 Fc419_3 Fc419_10 Fc419_11 (by omega : @Ne Nat (ad419_0 + 1) ad419_1) (by omega : @Ne Nat (ad419_0 + 1) (ad419_1 + 1)) (by omega : @Ne Nat (ad419_0 + 1) ad419_2) (by omega : @Ne Nat (ad419_0 + 1) (ad419_2 + 1)) (by omega : @Ne Nat (ad419_0 + 1) ad418) (by omega : @Ne Nat (ad419_0 + 1) ad419_0) (by omega : @Ne Nat (ad419_1 + 1) ad419_2) (by omega : @Ne Nat (ad419_1 + 1) (ad419_2 + 1)) (by omega : @Ne Nat (ad419_1 + 1) ad418) (by omega : @Ne Nat (ad419_1 + 1) ad419_0) (by omega : @Ne Nat (ad419_1 + 1) ad419_1) (by omega : @Ne Nat (ad419_2 + 1) ad418) (by omega : @Ne Nat (ad419_2 + 1) ad419_0) (by omega : @Ne Nat (ad419_2 + 1) ad419_1) (by omega : @Ne Nat (ad419_2 + 1) ad419_2)) (by decide) (by decide) rfl rfl (by decide) (by decide) rfl pd_28IIJJLcom2fexample2fparley2fparley2ftreesearch2fSubtreeAssignment3b29V rfl rfl rfl (Nat.le_of_ble_eq_true rfl) rfl ?_
          rintro h421 v421 ⟨rfl, K421, Fc421_0, Fc421_1, Fc421_2⟩
          have sz422 : n0 ≤ h421.size := Nat.le_trans sz420 K421.1
          show GoB0 l Z n0 OwnW.One1 h421 10 21 106 #[.val (.int sel), .val (.long est), .second, .val (.long lo1), .second, .val (.long up1), .second, .val (.long lo2), .second, .val (.long up2), .second, .val (.int (1 : Int32)), .val (.int (0 : Int32)), .val (.int (2 : Int32)), .val (.int (1 : Int32)), .val (.int (0 : Int32)), .val (.int (1 : Int32)), .val (.int sb), .val (.ref ad418)] []
          refine OwnW.aload (pc' := 108) at_106 rfl (rfl) rfl ?_
          refine OwnW.iload (pc' := 110) at_108 rfl rfl ?_
          refine OwnW.iload (pc' := 112) at_110 rfl rfl ?_
          refine OwnW.lloadN (pc' := 113) at_112 rfl rfl ?_
          have F423 := (Fc419_0.keep K421)
          have F424 := (Fc419_1.keep K421 (ninS (by omega : @Ne Nat ad418 (ad419_0 + 1)) (ninS (by omega : @Ne Nat ad418 (ad419_1 + 1)) (ninS (by omega : @Ne Nat ad418 (ad419_2 + 1)) nin0))))
          have F425 := (Fc419_4.keep K421 (ninS (by omega : @Ne Nat ad419_0 (ad419_0 + 1)) (ninS (by omega : @Ne Nat ad419_0 (ad419_1 + 1)) (ninS (by omega : @Ne Nat ad419_0 (ad419_2 + 1)) nin0))))
          have F426 := (Fc419_6.keep K421 (ninS (by omega : @Ne Nat (ad419_0 + 2) (ad419_0 + 1)) (ninS (by omega : @Ne Nat (ad419_0 + 2) (ad419_1 + 1)) (ninS (by omega : @Ne Nat (ad419_0 + 2) (ad419_2 + 1)) nin0))))
          have F427 := (Fc419_2.keep K421 (ninS (by omega : @Ne Nat ad418 (ad419_0 + 1)) (ninS (by omega : @Ne Nat ad418 (ad419_1 + 1)) (ninS (by omega : @Ne Nat ad418 (ad419_2 + 1)) nin0))))
          have F428 := (Fc419_7.keep K421 (ninS (by omega : @Ne Nat ad419_1 (ad419_0 + 1)) (ninS (by omega : @Ne Nat ad419_1 (ad419_1 + 1)) (ninS (by omega : @Ne Nat ad419_1 (ad419_2 + 1)) nin0))))
          have F429 := (Fc419_9.keep K421 (ninS (by omega : @Ne Nat (ad419_1 + 2) (ad419_0 + 1)) (ninS (by omega : @Ne Nat (ad419_1 + 2) (ad419_1 + 1)) (ninS (by omega : @Ne Nat (ad419_1 + 2) (ad419_2 + 1)) nin0))))
          have F430 := (Fc419_3.keep K421 (ninS (by omega : @Ne Nat ad418 (ad419_0 + 1)) (ninS (by omega : @Ne Nat ad418 (ad419_1 + 1)) (ninS (by omega : @Ne Nat ad418 (ad419_2 + 1)) nin0))))
          have F431 := (Fc419_10.keep K421 (ninS (by omega : @Ne Nat ad419_2 (ad419_0 + 1)) (ninS (by omega : @Ne Nat ad419_2 (ad419_1 + 1)) (ninS (by omega : @Ne Nat ad419_2 (ad419_2 + 1)) nin0))))
          have F432 := (Fc419_12.keep K421 (ninS (by omega : @Ne Nat (ad419_2 + 2) (ad419_0 + 1)) (ninS (by omega : @Ne Nat (ad419_2 + 2) (ad419_1 + 1)) (ninS (by omega : @Ne Nat (ad419_2 + 2) (ad419_2 + 1)) nin0))))
          refine OwnW.callV (a0 := a0) (pc' := 116) (W := 0) (k' := 10) (n' := 21) (argsL := [(.int (1 : Int32)), (.int (0 : Int32)), (.long est)]) (rest := []) at_113 (hw _ (List.mem_of_getElem? (i := 31) rfl)) (hw _ (List.mem_of_getElem? (i := 32) rfl)) (hw _ (List.mem_of_getElem? (i := 34) rfl)) (hw _ (List.mem_of_getElem? (i := 33) rfl)) (hw _ (List.mem_of_getElem? (i := 2) rfl)) (hw _ (List.mem_of_getElem? (i := 35) rfl)) (by decide) F423 (rm5_10 l Z a0 hw ad418 est ad419_0 (ad419_0 + 1) (ad419_0 + 2) kc419_0 kc419_1 (0 : Int64) (0 : Int64) ad419_1 (ad419_1 + 1) (ad419_1 + 2) kc419_2 kc419_3 (9223372036854775807 : Int64) (9223372036854775807 : Int64) ad419_2 (ad419_2 + 1) (ad419_2 + 2) kc419_4 kc419_5 h421 n0 sz422 (Nat.le_trans ge_ad419_0 (Nat.le_add_right _ _)) (Nat.le_trans ge_ad419_1 (Nat.le_add_right _ _)) (Nat.le_trans ge_ad419_2 (Nat.le_add_right _ _)) F423 F424 F425 F426 F427 F428 F429 F430 F431 F432 (by omega : @Ne Nat (ad419_0 + 2) ad419_1) (by omega : @Ne Nat (ad419_0 + 2) (ad419_1 + 2)) (by omega : @Ne Nat (ad419_0 + 2) ad419_2) (by omega : @Ne Nat (ad419_0 + 2) (ad419_2 + 2)) (by omega : @Ne Nat (ad419_0 + 2) ad418) (by omega : @Ne Nat (ad419_0 + 2) ad419_0) (by omega : @Ne Nat (ad419_1 + 2) ad419_2) (by omega : @Ne Nat (ad419_1 + 2) (ad419_2 + 2)) (by omega : @Ne Nat (ad419_1 + 2) ad418) (by omega : @Ne Nat (ad419_1 + 2) ad419_0) (by omega : @Ne Nat (ad419_1 + 2) ad419_1) (by omega : @Ne Nat (ad419_2 + 2) ad418) (by omega : @Ne Nat (ad419_2 + 2) ad419_0) (by omega : @Ne Nat (ad419_2 + 2) ad419_1) (by omega : @Ne Nat (ad419_2 + 2) ad419_2)) (by decide) (by decide) rfl rfl (by decide) (by decide) rfl pd_28IIJ29V rfl rfl rfl (Nat.le_of_ble_eq_true rfl) rfl ?_
          rintro h433 v433 ⟨rfl, K433, Fc433_0, Fc433_1, Fc433_2⟩
          have sz434 : n0 ≤ h433.size := Nat.le_trans sz422 K433.1
          show GoB0 l Z n0 OwnW.One1 h433 10 21 116 #[.val (.int sel), .val (.long est), .second, .val (.long lo1), .second, .val (.long up1), .second, .val (.long lo2), .second, .val (.long up2), .second, .val (.int (1 : Int32)), .val (.int (0 : Int32)), .val (.int (2 : Int32)), .val (.int (1 : Int32)), .val (.int (0 : Int32)), .val (.int (1 : Int32)), .val (.int sb), .val (.ref ad418)] []
          refine OwnW.aload (pc' := 118) at_116 rfl (rfl) rfl ?_
          refine OwnW.iload (pc' := 120) at_118 rfl rfl ?_
          refine OwnW.iload (pc' := 122) at_120 rfl rfl ?_
          have F435 := (F424.keep K433 (ninS (by omega : @Ne Nat ad418 (ad419_0 + 2)) (ninS (by omega : @Ne Nat ad418 (ad419_1 + 2)) (ninS (by omega : @Ne Nat ad418 (ad419_2 + 2)) nin0))))
          have F436 := (F425.keep K433 (ninS (by omega : @Ne Nat ad419_0 (ad419_0 + 2)) (ninS (by omega : @Ne Nat ad419_0 (ad419_1 + 2)) (ninS (by omega : @Ne Nat ad419_0 (ad419_2 + 2)) nin0))))
          have F437 := (F423.keep K433)
          refine OwnW.callV0 (a0 := a0) (pc' := 125) (W := 0) (k' := 10) (n' := 21) (argsL := [(.int (1 : Int32)), (.int (0 : Int32))]) (rest := []) (St' := [(.long (f6_10 ad418 ad419_0 (ad419_0 + 1) (ad419_0 + 2) kc419_0 kc419_1 est (0 : Int64)))]) at_122 (hw _ (List.mem_of_getElem? (i := 36) rfl)) (hw _ (List.mem_of_getElem? (i := 37) rfl)) (hw _ (List.mem_of_getElem? (i := 39) rfl)) (hw _ (List.mem_of_getElem? (i := 38) rfl)) (hw _ (List.mem_of_getElem? (i := 2) rfl)) (hw _ (List.mem_of_getElem? (i := 40) rfl)) (by decide) F437 (rm6_10 l Z a0 hw ad418 ad419_0 (ad419_0 + 1) (ad419_0 + 2) kc419_0 kc419_1 est (0 : Int64) h433 n0 F435 F436 Fc433_0) (by decide) (by decide) rfl rfl (by decide) (by decide) rfl pd_28II29J rfl rfl rfl (Nat.le_of_ble_eq_true rfl) rfl rfl ?_
          refine OwnW.lloadN (pc' := 126) at_125 rfl rfl ?_
          refine OwnW.lcmp (pc' := 127) at_126 rfl ?_
          refine OwnW.ifcN (pc' := 130) at_127 ((if0 _ _).trans (teq ((lw_eq _ _).mpr rfl)).2) rfl ?_
          refine OwnW.aload (pc' := 132) at_130 rfl (rfl) rfl ?_
          refine OwnW.iload (pc' := 134) at_132 rfl rfl ?_
          refine OwnW.iload (pc' := 136) at_134 rfl rfl ?_
          have F438 := (F427.keep K433 (ninS (by omega : @Ne Nat ad418 (ad419_0 + 2)) (ninS (by omega : @Ne Nat ad418 (ad419_1 + 2)) (ninS (by omega : @Ne Nat ad418 (ad419_2 + 2)) nin0))))
          have F439 := (F428.keep K433 (ninS (by omega : @Ne Nat ad419_1 (ad419_0 + 2)) (ninS (by omega : @Ne Nat ad419_1 (ad419_1 + 2)) (ninS (by omega : @Ne Nat ad419_1 (ad419_2 + 2)) nin0))))
          refine OwnW.callV0 (a0 := a0) (pc' := 139) (W := 0) (k' := 10) (n' := 21) (argsL := [(.int (1 : Int32)), (.int (0 : Int32))]) (rest := []) (St' := [(.long (f7_10 ad418 ad419_1 (ad419_1 + 1) (ad419_1 + 2) kc419_2 kc419_3 (9223372036854775807 : Int64) (9223372036854775807 : Int64)))]) at_136 (hw _ (List.mem_of_getElem? (i := 41) rfl)) (hw _ (List.mem_of_getElem? (i := 42) rfl)) (hw _ (List.mem_of_getElem? (i := 44) rfl)) (hw _ (List.mem_of_getElem? (i := 43) rfl)) (hw _ (List.mem_of_getElem? (i := 2) rfl)) (hw _ (List.mem_of_getElem? (i := 45) rfl)) (by decide) F437 (rm7_10 l Z a0 hw ad418 ad419_1 (ad419_1 + 1) (ad419_1 + 2) kc419_2 kc419_3 (9223372036854775807 : Int64) (9223372036854775807 : Int64) h433 n0 F438 F439 Fc433_1) (by decide) (by decide) rfl rfl (by decide) (by decide) rfl pd_28II29J rfl rfl rfl (Nat.le_of_ble_eq_true rfl) rfl rfl ?_
          refine OwnW.ldc2J (a0 := a0) (pc' := 142) (v := (9223372036854775807 : Int64)) at_139 (hw _ (List.mem_of_getElem? (i := 46) rfl)) rfl ?_
          refine OwnW.lcmp (pc' := 143) at_142 rfl ?_
          refine OwnW.ifcN (pc' := 146) at_143 ((if0 _ _).trans (teq ((lw_eq _ _).mpr rfl)).2) rfl ?_
          refine OwnW.aload (pc' := 148) at_146 rfl (rfl) rfl ?_
          refine OwnW.iload (pc' := 150) at_148 rfl rfl ?_
          refine OwnW.iload (pc' := 152) at_150 rfl rfl ?_
          have F440 := (Fc421_0.keep K433 (ninS (by omega : @Ne Nat (ad419_0 + 1) (ad419_0 + 2)) (ninS (by omega : @Ne Nat (ad419_0 + 1) (ad419_1 + 2)) (ninS (by omega : @Ne Nat (ad419_0 + 1) (ad419_2 + 2)) nin0))))
          refine OwnW.callV0 (a0 := a0) (pc' := 155) (W := 0) (k' := 10) (n' := 21) (argsL := [(.int (0 : Int32)), (.int (1 : Int32))]) (rest := []) (St' := [(.long (f6_01 ad418 ad419_0 (ad419_0 + 1) (ad419_0 + 2) kc419_0 kc419_1 (0 : Int64) lo2))]) at_152 (hw _ (List.mem_of_getElem? (i := 36) rfl)) (hw _ (List.mem_of_getElem? (i := 37) rfl)) (hw _ (List.mem_of_getElem? (i := 39) rfl)) (hw _ (List.mem_of_getElem? (i := 38) rfl)) (hw _ (List.mem_of_getElem? (i := 2) rfl)) (hw _ (List.mem_of_getElem? (i := 40) rfl)) (by decide) F437 (rm6_01 l Z a0 hw ad418 ad419_0 (ad419_0 + 1) (ad419_0 + 2) kc419_0 kc419_1 (0 : Int64) lo2 h433 n0 F435 F436 F440) (by decide) (by decide) rfl rfl (by decide) (by decide) rfl pd_28II29J rfl rfl rfl (Nat.le_of_ble_eq_true rfl) rfl rfl ?_
          refine OwnW.lload (pc' := 157) at_155 rfl rfl ?_
          refine OwnW.lcmp (pc' := 158) at_157 rfl ?_
          refine OwnW.ifcN (pc' := 161) at_158 ((if0 _ _).trans (teq ((lw_eq _ _).mpr rfl)).2) rfl ?_
          refine OwnW.aload (pc' := 163) at_161 rfl (rfl) rfl ?_
          refine OwnW.iload (pc' := 165) at_163 rfl rfl ?_
          refine OwnW.iload (pc' := 167) at_165 rfl rfl ?_
          have F441 := (Fc421_1.keep K433 (ninS (by omega : @Ne Nat (ad419_1 + 1) (ad419_0 + 2)) (ninS (by omega : @Ne Nat (ad419_1 + 1) (ad419_1 + 2)) (ninS (by omega : @Ne Nat (ad419_1 + 1) (ad419_2 + 2)) nin0))))
          refine OwnW.callV0 (a0 := a0) (pc' := 170) (W := 0) (k' := 10) (n' := 21) (argsL := [(.int (0 : Int32)), (.int (1 : Int32))]) (rest := []) (St' := [(.long (f7_01 ad418 ad419_1 (ad419_1 + 1) (ad419_1 + 2) kc419_2 kc419_3 (9223372036854775807 : Int64) up2))]) at_167 (hw _ (List.mem_of_getElem? (i := 41) rfl)) (hw _ (List.mem_of_getElem? (i := 42) rfl)) (hw _ (List.mem_of_getElem? (i := 44) rfl)) (hw _ (List.mem_of_getElem? (i := 43) rfl)) (hw _ (List.mem_of_getElem? (i := 2) rfl)) (hw _ (List.mem_of_getElem? (i := 45) rfl)) (by decide) F437 (rm7_01 l Z a0 hw ad418 ad419_1 (ad419_1 + 1) (ad419_1 + 2) kc419_2 kc419_3 (9223372036854775807 : Int64) up2 h433 n0 F438 F439 F441) (by decide) (by decide) rfl rfl (by decide) (by decide) rfl pd_28II29J rfl rfl rfl (Nat.le_of_ble_eq_true rfl) rfl rfl ?_
          refine OwnW.lload (pc' := 172) at_170 rfl rfl ?_
          refine OwnW.lcmp (pc' := 173) at_172 rfl ?_
          refine OwnW.ifcN (pc' := 176) at_173 ((if0 _ _).trans (teq ((lw_eq _ _).mpr rfl)).2) rfl ?_
          refine OwnW.iconst (pc' := 177) (v := (1 : Int32)) at_176 rfl rfl ?_
          refine OwnW.goto (pc' := 181) at_177 (by decide) (by decide) ?_
          exact OwnW.retN (t := .boolean) at_181 rfl (by simp) rfl (by decide) (by decide) (rfl)
        ·
          refine OwnW.ifcN (pc' := 79) at_76 ((if0 _ _).trans (feq hc76).1) rfl ?_
          refine OwnW.aload (pc' := 81) at_79 rfl (rfl) rfl ?_
          refine OwnW.iload (pc' := 83) at_81 rfl rfl ?_
          refine OwnW.iload (pc' := 85) at_83 rfl rfl ?_
          refine OwnW.lloadN (pc' := 86) at_85 rfl rfl ?_
          refine OwnW.lload (pc' := 88) at_86 rfl rfl ?_
          refine OwnW.aconstNull (pc' := 89) at_88 rfl ?_
          refine OwnW.callV (a0 := a0) (pc' := 92) (W := 0) (k' := 10) (n' := 21) (argsL := [(.int (1 : Int32)), (.int (0 : Int32)), (.long lo1), (.long up1), .null]) (rest := []) at_89 (hw _ (List.mem_of_getElem? (i := 26) rfl)) (hw _ (List.mem_of_getElem? (i := 27) rfl)) (hw _ (List.mem_of_getElem? (i := 29) rfl)) (hw _ (List.mem_of_getElem? (i := 28) rfl)) (hw _ (List.mem_of_getElem? (i := 2) rfl)) (hw _ (List.mem_of_getElem? (i := 30) rfl)) (by decide) Fc419_0 (rm4_10 l Z a0 hw ad418 lo1 up1 ad419_0 (ad419_0 + 1) (ad419_0 + 2) kc419_0 kc419_1 (0 : Int64) (0 : Int64) ad419_1 (ad419_1 + 1) (ad419_1 + 2) kc419_2 kc419_3 (9223372036854775807 : Int64) (9223372036854775807 : Int64) ad419_2 (ad419_2 + 1) (ad419_2 + 2) kc419_4 kc419_5 h419 n0 sz420 (Nat.le_trans ge_ad419_0 (Nat.le_add_right _ _)) (Nat.le_trans ge_ad419_1 (Nat.le_add_right _ _)) (Nat.le_trans ge_ad419_2 (Nat.le_add_right _ _)) Fc419_0 Fc419_1 Fc419_4 Fc419_6 Fc419_2 Fc419_7 Fc419_9 Fc419_3 Fc419_10 Fc419_12 (by omega : @Ne Nat (ad419_0 + 2) ad419_1) (by omega : @Ne Nat (ad419_0 + 2) (ad419_1 + 2)) (by omega : @Ne Nat (ad419_0 + 2) ad419_2) (by omega : @Ne Nat (ad419_0 + 2) (ad419_2 + 2)) (by omega : @Ne Nat (ad419_0 + 2) ad418) (by omega : @Ne Nat (ad419_0 + 2) ad419_0) (by omega : @Ne Nat (ad419_1 + 2) ad419_2) (by omega : @Ne Nat (ad419_1 + 2) (ad419_2 + 2)) (by omega : @Ne Nat (ad419_1 + 2) ad418) (by omega : @Ne Nat (ad419_1 + 2) ad419_0) (by omega : @Ne Nat (ad419_1 + 2) ad419_1) (by omega : @Ne Nat (ad419_2 + 2) ad418) (by omega : @Ne Nat (ad419_2 + 2) ad419_0) (by omega : @Ne Nat (ad419_2 + 2) ad419_1) (by omega : @Ne Nat (ad419_2 + 2) ad419_2)) (by decide) (by decide) rfl rfl (by decide) (by decide) rfl pd_28IIJJLcom2fexample2fparley2fparley2ftreesearch2fSubtreeAssignment3b29V rfl rfl rfl (Nat.le_of_ble_eq_true rfl) rfl ?_
          rintro h442 v442 ⟨rfl, K442, Fc442_0, Fc442_1, Fc442_2⟩
          have sz443 : n0 ≤ h442.size := Nat.le_trans sz420 K442.1
          show GoB0 l Z n0 OwnW.One1 h442 10 21 92 #[.val (.int sel), .val (.long est), .second, .val (.long lo1), .second, .val (.long up1), .second, .val (.long lo2), .second, .val (.long up2), .second, .val (.int (1 : Int32)), .val (.int (0 : Int32)), .val (.int (2 : Int32)), .val (.int (1 : Int32)), .val (.int (0 : Int32)), .val (.int (1 : Int32)), .val (.int sb), .val (.ref ad418)] []
          refine OwnW.aload (pc' := 94) at_92 rfl (rfl) rfl ?_
          refine OwnW.iload (pc' := 96) at_94 rfl rfl ?_
          refine OwnW.iload (pc' := 98) at_96 rfl rfl ?_
          refine OwnW.lload (pc' := 100) at_98 rfl rfl ?_
          refine OwnW.lload (pc' := 102) at_100 rfl rfl ?_
          refine OwnW.aconstNull (pc' := 103) at_102 rfl ?_
          have F444 := (Fc419_0.keep K442)
          have F445 := (Fc419_1.keep K442 (ninS (by omega : @Ne Nat ad418 (ad419_0 + 2)) (ninS (by omega : @Ne Nat ad418 (ad419_1 + 2)) (ninS (by omega : @Ne Nat ad418 (ad419_2 + 2)) nin0))))
          have F446 := (Fc419_4.keep K442 (ninS (by omega : @Ne Nat ad419_0 (ad419_0 + 2)) (ninS (by omega : @Ne Nat ad419_0 (ad419_1 + 2)) (ninS (by omega : @Ne Nat ad419_0 (ad419_2 + 2)) nin0))))
          have F447 := (Fc419_5.keep K442 (ninS (by omega : @Ne Nat (ad419_0 + 1) (ad419_0 + 2)) (ninS (by omega : @Ne Nat (ad419_0 + 1) (ad419_1 + 2)) (ninS (by omega : @Ne Nat (ad419_0 + 1) (ad419_2 + 2)) nin0))))
          have F448 := (Fc419_2.keep K442 (ninS (by omega : @Ne Nat ad418 (ad419_0 + 2)) (ninS (by omega : @Ne Nat ad418 (ad419_1 + 2)) (ninS (by omega : @Ne Nat ad418 (ad419_2 + 2)) nin0))))
          have F449 := (Fc419_7.keep K442 (ninS (by omega : @Ne Nat ad419_1 (ad419_0 + 2)) (ninS (by omega : @Ne Nat ad419_1 (ad419_1 + 2)) (ninS (by omega : @Ne Nat ad419_1 (ad419_2 + 2)) nin0))))
          have F450 := (Fc419_8.keep K442 (ninS (by omega : @Ne Nat (ad419_1 + 1) (ad419_0 + 2)) (ninS (by omega : @Ne Nat (ad419_1 + 1) (ad419_1 + 2)) (ninS (by omega : @Ne Nat (ad419_1 + 1) (ad419_2 + 2)) nin0))))
          have F451 := (Fc419_3.keep K442 (ninS (by omega : @Ne Nat ad418 (ad419_0 + 2)) (ninS (by omega : @Ne Nat ad418 (ad419_1 + 2)) (ninS (by omega : @Ne Nat ad418 (ad419_2 + 2)) nin0))))
          have F452 := (Fc419_10.keep K442 (ninS (by omega : @Ne Nat ad419_2 (ad419_0 + 2)) (ninS (by omega : @Ne Nat ad419_2 (ad419_1 + 2)) (ninS (by omega : @Ne Nat ad419_2 (ad419_2 + 2)) nin0))))
          have F453 := (Fc419_11.keep K442 (ninS (by omega : @Ne Nat (ad419_2 + 1) (ad419_0 + 2)) (ninS (by omega : @Ne Nat (ad419_2 + 1) (ad419_1 + 2)) (ninS (by omega : @Ne Nat (ad419_2 + 1) (ad419_2 + 2)) nin0))))
          refine OwnW.callV (a0 := a0) (pc' := 106) (W := 0) (k' := 10) (n' := 21) (argsL := [(.int (0 : Int32)), (.int (1 : Int32)), (.long lo2), (.long up2), .null]) (rest := []) at_103 (hw _ (List.mem_of_getElem? (i := 26) rfl)) (hw _ (List.mem_of_getElem? (i := 27) rfl)) (hw _ (List.mem_of_getElem? (i := 29) rfl)) (hw _ (List.mem_of_getElem? (i := 28) rfl)) (hw _ (List.mem_of_getElem? (i := 2) rfl)) (hw _ (List.mem_of_getElem? (i := 30) rfl)) (by decide) F444 (rm4_01 l Z a0 hw ad418 lo2 up2 ad419_0 (ad419_0 + 1) (ad419_0 + 2) kc419_0 kc419_1 (0 : Int64) (0 : Int64) ad419_1 (ad419_1 + 1) (ad419_1 + 2) kc419_2 kc419_3 (9223372036854775807 : Int64) (9223372036854775807 : Int64) ad419_2 (ad419_2 + 1) (ad419_2 + 2) kc419_4 kc419_5 h442 n0 sz443 (Nat.le_trans ge_ad419_0 (Nat.le_add_right _ _)) (Nat.le_trans ge_ad419_1 (Nat.le_add_right _ _)) (Nat.le_trans ge_ad419_2 (Nat.le_add_right _ _)) F444 F445 F446 F447 F448 F449 F450 F451 F452 F453 (by omega : @Ne Nat (ad419_0 + 1) ad419_1) (by omega : @Ne Nat (ad419_0 + 1) (ad419_1 + 1)) (by omega : @Ne Nat (ad419_0 + 1) ad419_2) (by omega : @Ne Nat (ad419_0 + 1) (ad419_2 + 1)) (by omega : @Ne Nat (ad419_0 + 1) ad418) (by omega : @Ne Nat (ad419_0 + 1) ad419_0) (by omega : @Ne Nat (ad419_1 + 1) ad419_2) (by omega : @Ne Nat (ad419_1 + 1) (ad419_2 + 1)) (by omega : @Ne Nat (ad419_1 + 1) ad418) (by omega : @Ne Nat (ad419_1 + 1) ad419_0) (by omega : @Ne Nat (ad419_1 + 1) ad419_1) (by omega : @Ne Nat (ad419_2 + 1) ad418) (by omega : @Ne Nat (ad419_2 + 1) ad419_0) (by omega : @Ne Nat (ad419_2 + 1) ad419_1) (by omega : @Ne Nat (ad419_2 + 1) ad419_2)) (by decide) (by decide) rfl rfl (by decide) (by decide) rfl pd_28IIJJLcom2fexample2fparley2fparley2ftreesearch2fSubtreeAssignment3b29V rfl rfl rfl (Nat.le_of_ble_eq_true rfl) rfl ?_
          rintro h454 v454 ⟨rfl, K454, Fc454_0, Fc454_1, Fc454_2⟩
          have sz455 : n0 ≤ h454.size := Nat.le_trans sz443 K454.1
          show GoB0 l Z n0 OwnW.One1 h454 10 21 106 #[.val (.int sel), .val (.long est), .second, .val (.long lo1), .second, .val (.long up1), .second, .val (.long lo2), .second, .val (.long up2), .second, .val (.int (1 : Int32)), .val (.int (0 : Int32)), .val (.int (2 : Int32)), .val (.int (1 : Int32)), .val (.int (0 : Int32)), .val (.int (1 : Int32)), .val (.int sb), .val (.ref ad418)] []
          refine OwnW.aload (pc' := 108) at_106 rfl (rfl) rfl ?_
          refine OwnW.iload (pc' := 110) at_108 rfl rfl ?_
          refine OwnW.iload (pc' := 112) at_110 rfl rfl ?_
          refine OwnW.lloadN (pc' := 113) at_112 rfl rfl ?_
          have F456 := (F444.keep K454)
          have F457 := (F445.keep K454 (ninS (by omega : @Ne Nat ad418 (ad419_0 + 1)) (ninS (by omega : @Ne Nat ad418 (ad419_1 + 1)) (ninS (by omega : @Ne Nat ad418 (ad419_2 + 1)) nin0))))
          have F458 := (F446.keep K454 (ninS (by omega : @Ne Nat ad419_0 (ad419_0 + 1)) (ninS (by omega : @Ne Nat ad419_0 (ad419_1 + 1)) (ninS (by omega : @Ne Nat ad419_0 (ad419_2 + 1)) nin0))))
          have F459 := (Fc442_0.keep K454 (ninS (by omega : @Ne Nat (ad419_0 + 2) (ad419_0 + 1)) (ninS (by omega : @Ne Nat (ad419_0 + 2) (ad419_1 + 1)) (ninS (by omega : @Ne Nat (ad419_0 + 2) (ad419_2 + 1)) nin0))))
          have F460 := (F448.keep K454 (ninS (by omega : @Ne Nat ad418 (ad419_0 + 1)) (ninS (by omega : @Ne Nat ad418 (ad419_1 + 1)) (ninS (by omega : @Ne Nat ad418 (ad419_2 + 1)) nin0))))
          have F461 := (F449.keep K454 (ninS (by omega : @Ne Nat ad419_1 (ad419_0 + 1)) (ninS (by omega : @Ne Nat ad419_1 (ad419_1 + 1)) (ninS (by omega : @Ne Nat ad419_1 (ad419_2 + 1)) nin0))))
          have F462 := (Fc442_1.keep K454 (ninS (by omega : @Ne Nat (ad419_1 + 2) (ad419_0 + 1)) (ninS (by omega : @Ne Nat (ad419_1 + 2) (ad419_1 + 1)) (ninS (by omega : @Ne Nat (ad419_1 + 2) (ad419_2 + 1)) nin0))))
          have F463 := (F451.keep K454 (ninS (by omega : @Ne Nat ad418 (ad419_0 + 1)) (ninS (by omega : @Ne Nat ad418 (ad419_1 + 1)) (ninS (by omega : @Ne Nat ad418 (ad419_2 + 1)) nin0))))
          have F464 := (F452.keep K454 (ninS (by omega : @Ne Nat ad419_2 (ad419_0 + 1)) (ninS (by omega : @Ne Nat ad419_2 (ad419_1 + 1)) (ninS (by omega : @Ne Nat ad419_2 (ad419_2 + 1)) nin0))))
          have F465 := (Fc442_2.keep K454 (ninS (by omega : @Ne Nat (ad419_2 + 2) (ad419_0 + 1)) (ninS (by omega : @Ne Nat (ad419_2 + 2) (ad419_1 + 1)) (ninS (by omega : @Ne Nat (ad419_2 + 2) (ad419_2 + 1)) nin0))))
          refine OwnW.callV (a0 := a0) (pc' := 116) (W := 0) (k' := 10) (n' := 21) (argsL := [(.int (1 : Int32)), (.int (0 : Int32)), (.long est)]) (rest := []) at_113 (hw _ (List.mem_of_getElem? (i := 31) rfl)) (hw _ (List.mem_of_getElem? (i := 32) rfl)) (hw _ (List.mem_of_getElem? (i := 34) rfl)) (hw _ (List.mem_of_getElem? (i := 33) rfl)) (hw _ (List.mem_of_getElem? (i := 2) rfl)) (hw _ (List.mem_of_getElem? (i := 35) rfl)) (by decide) F456 (rm5_10 l Z a0 hw ad418 est ad419_0 (ad419_0 + 1) (ad419_0 + 2) kc419_0 kc419_1 lo1 (0 : Int64) ad419_1 (ad419_1 + 1) (ad419_1 + 2) kc419_2 kc419_3 up1 (9223372036854775807 : Int64) ad419_2 (ad419_2 + 1) (ad419_2 + 2) kc419_4 kc419_5 h454 n0 sz455 (Nat.le_trans ge_ad419_0 (Nat.le_add_right _ _)) (Nat.le_trans ge_ad419_1 (Nat.le_add_right _ _)) (Nat.le_trans ge_ad419_2 (Nat.le_add_right _ _)) F456 F457 F458 F459 F460 F461 F462 F463 F464 F465 (by omega : @Ne Nat (ad419_0 + 2) ad419_1) (by omega : @Ne Nat (ad419_0 + 2) (ad419_1 + 2)) (by omega : @Ne Nat (ad419_0 + 2) ad419_2) (by omega : @Ne Nat (ad419_0 + 2) (ad419_2 + 2)) (by omega : @Ne Nat (ad419_0 + 2) ad418) (by omega : @Ne Nat (ad419_0 + 2) ad419_0) (by omega : @Ne Nat (ad419_1 + 2) ad419_2) (by omega : @Ne Nat (ad419_1 + 2) (ad419_2 + 2)) (by omega : @Ne Nat (ad419_1 + 2) ad418) (by omega : @Ne Nat (ad419_1 + 2) ad419_0) (by omega : @Ne Nat (ad419_1 + 2) ad419_1) (by omega : @Ne Nat (ad419_2 + 2) ad418) (by omega : @Ne Nat (ad419_2 + 2) ad419_0) (by omega : @Ne Nat (ad419_2 + 2) ad419_1) (by omega : @Ne Nat (ad419_2 + 2) ad419_2)) (by decide) (by decide) rfl rfl (by decide) (by decide) rfl pd_28IIJ29V rfl rfl rfl (Nat.le_of_ble_eq_true rfl) rfl ?_
          rintro h466 v466 ⟨rfl, K466, Fc466_0, Fc466_1, Fc466_2⟩
          have sz467 : n0 ≤ h466.size := Nat.le_trans sz455 K466.1
          show GoB0 l Z n0 OwnW.One1 h466 10 21 116 #[.val (.int sel), .val (.long est), .second, .val (.long lo1), .second, .val (.long up1), .second, .val (.long lo2), .second, .val (.long up2), .second, .val (.int (1 : Int32)), .val (.int (0 : Int32)), .val (.int (2 : Int32)), .val (.int (1 : Int32)), .val (.int (0 : Int32)), .val (.int (1 : Int32)), .val (.int sb), .val (.ref ad418)] []
          refine OwnW.aload (pc' := 118) at_116 rfl (rfl) rfl ?_
          refine OwnW.iload (pc' := 120) at_118 rfl rfl ?_
          refine OwnW.iload (pc' := 122) at_120 rfl rfl ?_
          have F468 := (F457.keep K466 (ninS (by omega : @Ne Nat ad418 (ad419_0 + 2)) (ninS (by omega : @Ne Nat ad418 (ad419_1 + 2)) (ninS (by omega : @Ne Nat ad418 (ad419_2 + 2)) nin0))))
          have F469 := (F458.keep K466 (ninS (by omega : @Ne Nat ad419_0 (ad419_0 + 2)) (ninS (by omega : @Ne Nat ad419_0 (ad419_1 + 2)) (ninS (by omega : @Ne Nat ad419_0 (ad419_2 + 2)) nin0))))
          have F470 := (F456.keep K466)
          refine OwnW.callV0 (a0 := a0) (pc' := 125) (W := 0) (k' := 10) (n' := 21) (argsL := [(.int (1 : Int32)), (.int (0 : Int32))]) (rest := []) (St' := [(.long (f6_10 ad418 ad419_0 (ad419_0 + 1) (ad419_0 + 2) kc419_0 kc419_1 est (0 : Int64)))]) at_122 (hw _ (List.mem_of_getElem? (i := 36) rfl)) (hw _ (List.mem_of_getElem? (i := 37) rfl)) (hw _ (List.mem_of_getElem? (i := 39) rfl)) (hw _ (List.mem_of_getElem? (i := 38) rfl)) (hw _ (List.mem_of_getElem? (i := 2) rfl)) (hw _ (List.mem_of_getElem? (i := 40) rfl)) (by decide) F470 (rm6_10 l Z a0 hw ad418 ad419_0 (ad419_0 + 1) (ad419_0 + 2) kc419_0 kc419_1 est (0 : Int64) h466 n0 F468 F469 Fc466_0) (by decide) (by decide) rfl rfl (by decide) (by decide) rfl pd_28II29J rfl rfl rfl (Nat.le_of_ble_eq_true rfl) rfl rfl ?_
          refine OwnW.lloadN (pc' := 126) at_125 rfl rfl ?_
          refine OwnW.lcmp (pc' := 127) at_126 rfl ?_
          refine OwnW.ifcN (pc' := 130) at_127 ((if0 _ _).trans (teq ((lw_eq _ _).mpr rfl)).2) rfl ?_
          refine OwnW.aload (pc' := 132) at_130 rfl (rfl) rfl ?_
          refine OwnW.iload (pc' := 134) at_132 rfl rfl ?_
          refine OwnW.iload (pc' := 136) at_134 rfl rfl ?_
          have F471 := (F460.keep K466 (ninS (by omega : @Ne Nat ad418 (ad419_0 + 2)) (ninS (by omega : @Ne Nat ad418 (ad419_1 + 2)) (ninS (by omega : @Ne Nat ad418 (ad419_2 + 2)) nin0))))
          have F472 := (F461.keep K466 (ninS (by omega : @Ne Nat ad419_1 (ad419_0 + 2)) (ninS (by omega : @Ne Nat ad419_1 (ad419_1 + 2)) (ninS (by omega : @Ne Nat ad419_1 (ad419_2 + 2)) nin0))))
          refine OwnW.callV0 (a0 := a0) (pc' := 139) (W := 0) (k' := 10) (n' := 21) (argsL := [(.int (1 : Int32)), (.int (0 : Int32))]) (rest := []) (St' := [(.long (f7_10 ad418 ad419_1 (ad419_1 + 1) (ad419_1 + 2) kc419_2 kc419_3 (9223372036854775807 : Int64) (9223372036854775807 : Int64)))]) at_136 (hw _ (List.mem_of_getElem? (i := 41) rfl)) (hw _ (List.mem_of_getElem? (i := 42) rfl)) (hw _ (List.mem_of_getElem? (i := 44) rfl)) (hw _ (List.mem_of_getElem? (i := 43) rfl)) (hw _ (List.mem_of_getElem? (i := 2) rfl)) (hw _ (List.mem_of_getElem? (i := 45) rfl)) (by decide) F470 (rm7_10 l Z a0 hw ad418 ad419_1 (ad419_1 + 1) (ad419_1 + 2) kc419_2 kc419_3 (9223372036854775807 : Int64) (9223372036854775807 : Int64) h466 n0 F471 F472 Fc466_1) (by decide) (by decide) rfl rfl (by decide) (by decide) rfl pd_28II29J rfl rfl rfl (Nat.le_of_ble_eq_true rfl) rfl rfl ?_
          refine OwnW.ldc2J (a0 := a0) (pc' := 142) (v := (9223372036854775807 : Int64)) at_139 (hw _ (List.mem_of_getElem? (i := 46) rfl)) rfl ?_
          refine OwnW.lcmp (pc' := 143) at_142 rfl ?_
          refine OwnW.ifcN (pc' := 146) at_143 ((if0 _ _).trans (teq ((lw_eq _ _).mpr rfl)).2) rfl ?_
          refine OwnW.aload (pc' := 148) at_146 rfl (rfl) rfl ?_
          refine OwnW.iload (pc' := 150) at_148 rfl rfl ?_
          refine OwnW.iload (pc' := 152) at_150 rfl rfl ?_
          have F473 := (Fc454_0.keep K466 (ninS (by omega : @Ne Nat (ad419_0 + 1) (ad419_0 + 2)) (ninS (by omega : @Ne Nat (ad419_0 + 1) (ad419_1 + 2)) (ninS (by omega : @Ne Nat (ad419_0 + 1) (ad419_2 + 2)) nin0))))
          refine OwnW.callV0 (a0 := a0) (pc' := 155) (W := 0) (k' := 10) (n' := 21) (argsL := [(.int (0 : Int32)), (.int (1 : Int32))]) (rest := []) (St' := [(.long (f6_01 ad418 ad419_0 (ad419_0 + 1) (ad419_0 + 2) kc419_0 kc419_1 (0 : Int64) lo2))]) at_152 (hw _ (List.mem_of_getElem? (i := 36) rfl)) (hw _ (List.mem_of_getElem? (i := 37) rfl)) (hw _ (List.mem_of_getElem? (i := 39) rfl)) (hw _ (List.mem_of_getElem? (i := 38) rfl)) (hw _ (List.mem_of_getElem? (i := 2) rfl)) (hw _ (List.mem_of_getElem? (i := 40) rfl)) (by decide) F470 (rm6_01 l Z a0 hw ad418 ad419_0 (ad419_0 + 1) (ad419_0 + 2) kc419_0 kc419_1 (0 : Int64) lo2 h466 n0 F468 F469 F473) (by decide) (by decide) rfl rfl (by decide) (by decide) rfl pd_28II29J rfl rfl rfl (Nat.le_of_ble_eq_true rfl) rfl rfl ?_
          refine OwnW.lload (pc' := 157) at_155 rfl rfl ?_
          refine OwnW.lcmp (pc' := 158) at_157 rfl ?_
          refine OwnW.ifcN (pc' := 161) at_158 ((if0 _ _).trans (teq ((lw_eq _ _).mpr rfl)).2) rfl ?_
          refine OwnW.aload (pc' := 163) at_161 rfl (rfl) rfl ?_
          refine OwnW.iload (pc' := 165) at_163 rfl rfl ?_
          refine OwnW.iload (pc' := 167) at_165 rfl rfl ?_
          have F474 := (Fc454_1.keep K466 (ninS (by omega : @Ne Nat (ad419_1 + 1) (ad419_0 + 2)) (ninS (by omega : @Ne Nat (ad419_1 + 1) (ad419_1 + 2)) (ninS (by omega : @Ne Nat (ad419_1 + 1) (ad419_2 + 2)) nin0))))
          refine OwnW.callV0 (a0 := a0) (pc' := 170) (W := 0) (k' := 10) (n' := 21) (argsL := [(.int (0 : Int32)), (.int (1 : Int32))]) (rest := []) (St' := [(.long (f7_01 ad418 ad419_1 (ad419_1 + 1) (ad419_1 + 2) kc419_2 kc419_3 (9223372036854775807 : Int64) up2))]) at_167 (hw _ (List.mem_of_getElem? (i := 41) rfl)) (hw _ (List.mem_of_getElem? (i := 42) rfl)) (hw _ (List.mem_of_getElem? (i := 44) rfl)) (hw _ (List.mem_of_getElem? (i := 43) rfl)) (hw _ (List.mem_of_getElem? (i := 2) rfl)) (hw _ (List.mem_of_getElem? (i := 45) rfl)) (by decide) F470 (rm7_01 l Z a0 hw ad418 ad419_1 (ad419_1 + 1) (ad419_1 + 2) kc419_2 kc419_3 (9223372036854775807 : Int64) up2 h466 n0 F471 F472 F474) (by decide) (by decide) rfl rfl (by decide) (by decide) rfl pd_28II29J rfl rfl rfl (Nat.le_of_ble_eq_true rfl) rfl rfl ?_
          refine OwnW.lload (pc' := 172) at_170 rfl rfl ?_
          refine OwnW.lcmp (pc' := 173) at_172 rfl ?_
          refine OwnW.ifcN (pc' := 176) at_173 ((if0 _ _).trans (teq ((lw_eq _ _).mpr rfl)).2) rfl ?_
          refine OwnW.iconst (pc' := 177) (v := (1 : Int32)) at_176 rfl rfl ?_
          refine OwnW.goto (pc' := 181) at_177 (by decide) (by decide) ?_
          exact OwnW.retN (t := .boolean) at_181 rfl (by simp) rfl (by decide) (by decide) (rfl)
    ·
      show GoB0 l Z n0 OwnW.One1 h0 0 0 10 #[.val (.int sel), .val (.long est), .second, .val (.long lo1), .second, .val (.long up1), .second, .val (.long lo2), .second, .val (.long up2), .second, .val (.int (1 : Int32)), .unset, .unset, .unset, .unset, .unset, .unset, .unset] [(.int (1 : Int32))]
      refine OwnW.istore (pc' := 12) (L' := #[.val (.int sel), .val (.long est), .second, .val (.long lo1), .second, .val (.long up1), .second, .val (.long lo2), .second, .val (.long up2), .second, .val (.int (1 : Int32)), .val (.int (1 : Int32)), .unset, .unset, .unset, .unset, .unset, .unset]) at_10 rfl rfl ?_
      refine OwnW.iconst (pc' := 13) (v := (2 : Int32)) at_12 rfl rfl ?_
      refine OwnW.iload (pc' := 15) at_13 rfl rfl ?_
      refine OwnW.imul (pc' := 16) at_15 rfl ?_
      show GoB0 l Z n0 OwnW.One1 h0 0 0 16 #[.val (.int sel), .val (.long est), .second, .val (.long lo1), .second, .val (.long up1), .second, .val (.long lo2), .second, .val (.long up2), .second, .val (.int (1 : Int32)), .val (.int (1 : Int32)), .unset, .unset, .unset, .unset, .unset, .unset] [(.int (2 : Int32))]
      refine OwnW.iload (pc' := 18) at_16 rfl rfl ?_
      refine OwnW.iadd (pc' := 19) at_18 rfl ?_
      show GoB0 l Z n0 OwnW.One1 h0 0 0 19 #[.val (.int sel), .val (.long est), .second, .val (.long lo1), .second, .val (.long up1), .second, .val (.long lo2), .second, .val (.long up2), .second, .val (.int (1 : Int32)), .val (.int (1 : Int32)), .unset, .unset, .unset, .unset, .unset, .unset] [(.int (3 : Int32))]
      refine OwnW.istore (pc' := 21) (L' := #[.val (.int sel), .val (.long est), .second, .val (.long lo1), .second, .val (.long up1), .second, .val (.long lo2), .second, .val (.long up2), .second, .val (.int (1 : Int32)), .val (.int (1 : Int32)), .val (.int (3 : Int32)), .unset, .unset, .unset, .unset, .unset]) at_19 rfl rfl ?_
      refine OwnW.iload (pc' := 23) at_21 rfl rfl ?_
      refine OwnW.iconst (pc' := 24) (v := (1 : Int32)) at_23 rfl rfl ?_
      refine OwnW.iadd (pc' := 25) at_24 rfl ?_
      show GoB0 l Z n0 OwnW.One1 h0 0 0 25 #[.val (.int sel), .val (.long est), .second, .val (.long lo1), .second, .val (.long up1), .second, .val (.long lo2), .second, .val (.long up2), .second, .val (.int (1 : Int32)), .val (.int (1 : Int32)), .val (.int (3 : Int32)), .unset, .unset, .unset, .unset, .unset] [(.int (4 : Int32))]
      refine OwnW.iloadN (pc' := 26) at_25 rfl rfl ?_
      refine OwnW.iconst (pc' := 27) (v := (2 : Int32)) at_26 rfl rfl ?_
      refine OwnW.iushr (pc' := 28) at_27 rfl ?_
      refine OwnW.iconst (pc' := 29) (v := (3 : Int32)) at_28 rfl rfl ?_
      refine OwnW.iand (pc' := 30) at_29 rfl ?_
      refine OwnW.iconst (pc' := 31) (v := (3 : Int32)) at_30 rfl rfl ?_
      refine OwnW.irem (pc' := 32) at_31 (by decide) rfl ?_
      obtain ⟨r, hr⟩ : ∃ z, z = ((((sel.toUInt32 >>> ((2 : Int32) &&& 31).toUInt32).toInt32) &&& (3 : Int32)) % (3 : Int32)) := ⟨_, rfl⟩
      rw [← hr]
      show GoB0 l Z n0 OwnW.One1 h0 0 0 32 #[.val (.int sel), .val (.long est), .second, .val (.long lo1), .second, .val (.long up1), .second, .val (.long lo2), .second, .val (.long up2), .second, .val (.int (1 : Int32)), .val (.int (1 : Int32)), .val (.int (3 : Int32)), .unset, .unset, .unset, .unset, .unset] [(.int r), (.int (4 : Int32))]
      rcases (own_r hr) with rfl | rfl | rfl
      ·
        show GoB0 l Z n0 OwnW.One1 h0 0 0 32 #[.val (.int sel), .val (.long est), .second, .val (.long lo1), .second, .val (.long up1), .second, .val (.long lo2), .second, .val (.long up2), .second, .val (.int (1 : Int32)), .val (.int (1 : Int32)), .val (.int (3 : Int32)), .unset, .unset, .unset, .unset, .unset] [(.int (0 : Int32)), (.int (4 : Int32))]
        refine OwnW.iadd (pc' := 33) at_32 rfl ?_
        show GoB0 l Z n0 OwnW.One1 h0 0 0 33 #[.val (.int sel), .val (.long est), .second, .val (.long lo1), .second, .val (.long up1), .second, .val (.long lo2), .second, .val (.long up2), .second, .val (.int (1 : Int32)), .val (.int (1 : Int32)), .val (.int (3 : Int32)), .unset, .unset, .unset, .unset, .unset] [(.int (4 : Int32))]
        refine OwnW.iconst (pc' := 34) (v := (3 : Int32)) at_33 rfl rfl ?_
        refine OwnW.iand (pc' := 35) at_34 rfl ?_
        show GoB0 l Z n0 OwnW.One1 h0 0 0 35 #[.val (.int sel), .val (.long est), .second, .val (.long lo1), .second, .val (.long up1), .second, .val (.long lo2), .second, .val (.long up2), .second, .val (.int (1 : Int32)), .val (.int (1 : Int32)), .val (.int (3 : Int32)), .unset, .unset, .unset, .unset, .unset] [(.int (0 : Int32))]
        refine OwnW.istore (pc' := 37) (L' := #[.val (.int sel), .val (.long est), .second, .val (.long lo1), .second, .val (.long up1), .second, .val (.long lo2), .second, .val (.long up2), .second, .val (.int (1 : Int32)), .val (.int (1 : Int32)), .val (.int (3 : Int32)), .val (.int (0 : Int32)), .unset, .unset, .unset, .unset]) at_35 rfl rfl ?_
        refine OwnW.iload (pc' := 39) at_37 rfl rfl ?_
        refine OwnW.iconst (pc' := 40) (v := (1 : Int32)) at_39 rfl rfl ?_
        refine OwnW.ishr (pc' := 41) at_40 rfl ?_
        show GoB0 l Z n0 OwnW.One1 h0 0 0 41 #[.val (.int sel), .val (.long est), .second, .val (.long lo1), .second, .val (.long up1), .second, .val (.long lo2), .second, .val (.long up2), .second, .val (.int (1 : Int32)), .val (.int (1 : Int32)), .val (.int (3 : Int32)), .val (.int (0 : Int32)), .unset, .unset, .unset, .unset] [(.int (0 : Int32))]
        refine OwnW.istore (pc' := 43) (L' := #[.val (.int sel), .val (.long est), .second, .val (.long lo1), .second, .val (.long up1), .second, .val (.long lo2), .second, .val (.long up2), .second, .val (.int (1 : Int32)), .val (.int (1 : Int32)), .val (.int (3 : Int32)), .val (.int (0 : Int32)), .val (.int (0 : Int32)), .unset, .unset, .unset]) at_41 rfl rfl ?_
        refine OwnW.iload (pc' := 45) at_43 rfl rfl ?_
        refine OwnW.iconst (pc' := 46) (v := (1 : Int32)) at_45 rfl rfl ?_
        refine OwnW.iand (pc' := 47) at_46 rfl ?_
        show GoB0 l Z n0 OwnW.One1 h0 0 0 47 #[.val (.int sel), .val (.long est), .second, .val (.long lo1), .second, .val (.long up1), .second, .val (.long lo2), .second, .val (.long up2), .second, .val (.int (1 : Int32)), .val (.int (1 : Int32)), .val (.int (3 : Int32)), .val (.int (0 : Int32)), .val (.int (0 : Int32)), .unset, .unset, .unset] [(.int (0 : Int32))]
        refine OwnW.istore (pc' := 49) (L' := #[.val (.int sel), .val (.long est), .second, .val (.long lo1), .second, .val (.long up1), .second, .val (.long lo2), .second, .val (.long up2), .second, .val (.int (1 : Int32)), .val (.int (1 : Int32)), .val (.int (3 : Int32)), .val (.int (0 : Int32)), .val (.int (0 : Int32)), .val (.int (0 : Int32)), .unset, .unset]) at_47 rfl rfl ?_
        refine OwnW.iloadN (pc' := 50) at_49 rfl rfl ?_
        refine OwnW.bipush (pc' := 52) (v := (16 : Int32)) at_50 rfl rfl ?_
        refine OwnW.iand (pc' := 53) at_52 rfl ?_
        suffices J53_61 : ∀ (sb : Int32), sb = (if (sel &&& (16 : Int32)) = (0 : Int32) then (0 : Int32) else (1 : Int32)) → GoB0 l Z n0 OwnW.One1 h0 0 0 61 #[.val (.int sel), .val (.long est), .second, .val (.long lo1), .second, .val (.long up1), .second, .val (.long lo2), .second, .val (.long up2), .second, .val (.int (1 : Int32)), .val (.int (1 : Int32)), .val (.int (3 : Int32)), .val (.int (0 : Int32)), .val (.int (0 : Int32)), .val (.int (0 : Int32)), .unset, .unset] [(.int sb)] by
          by_cases hc53 : (sel &&& (16 : Int32)) = (0 : Int32)
          ·
            refine OwnW.ifcY (pc' := 60) at_53 ((if0 _ _).trans (teq hc53).1) (by decide) (by decide) ?_
            refine OwnW.iconst (pc' := 61) (v := (0 : Int32)) at_60 rfl rfl ?_
            exact J53_61 _ (by first | simp only [if_pos hc53] | rfl)
          ·
            refine OwnW.ifcN (pc' := 56) at_53 ((if0 _ _).trans (feq hc53).1) rfl ?_
            refine OwnW.iconst (pc' := 57) (v := (1 : Int32)) at_56 rfl rfl ?_
            refine OwnW.goto (pc' := 61) at_57 (by decide) (by decide) ?_
            exact J53_61 _ (by first | simp only [if_neg hc53] | rfl)
        intro sb hsb
        refine OwnW.istore (pc' := 63) (L' := #[.val (.int sel), .val (.long est), .second, .val (.long lo1), .second, .val (.long up1), .second, .val (.long lo2), .second, .val (.long up2), .second, .val (.int (1 : Int32)), .val (.int (1 : Int32)), .val (.int (3 : Int32)), .val (.int (0 : Int32)), .val (.int (0 : Int32)), .val (.int (0 : Int32)), .val (.int sb), .unset]) at_61 rfl rfl ?_
        refine OwnW.newO (a0 := a0) (pc' := 66) (k' := 1) (n' := 3) at_63 (hw _ (List.mem_of_getElem? (i := 0) rfl)) (hw _ (List.mem_of_getElem? (i := 1) rfl)) (hw _ (List.mem_of_getElem? (i := 2) rfl)) rfl rfl (by decide) (by decide) rfl ?_
        intro h475 ad475 g475 E475 A475 D475
        have ge_ad475 : n0 ≤ ad475 := Nat.le_trans Z0 (Nat.le_of_eq g475.symm)
        have sz_ad475 : n0 ≤ h475.size := Nat.le_trans Z0 E475.1
        have F475_lower : Fld Z h475 ad475 "com/example/parley/parley/treesearch/ChildBounds" "lower" "[[J" .null := D475 (Or.inr (hw _ (List.mem_of_getElem? (i := 13) rfl))) (ty := (.array (.array .long))) (by decide)
        have F475_upper : Fld Z h475 ad475 "com/example/parley/parley/treesearch/ChildBounds" "upper" "[[J" .null := D475 (Or.inr (hw _ (List.mem_of_getElem? (i := 15) rfl))) (ty := (.array (.array .long))) (by decide)
        have F475_assignments : Fld Z h475 ad475 "com/example/parley/parley/treesearch/ChildBounds" "assignments" "[[Lcom/example/parley/parley/treesearch/SubtreeAssignment;" .null := D475 (Or.inr (hw _ (List.mem_of_getElem? (i := 20) rfl))) (ty := (.array (.array (.object "com/example/parley/parley/treesearch/SubtreeAssignment")))) (by decide)
        refine OwnW.dup (pc' := 67) at_66 rfl rfl ?_
        refine OwnW.iconst (pc' := 68) (v := (2 : Int32)) at_67 rfl rfl ?_
        refine OwnW.iconst (pc' := 69) (v := (2 : Int32)) at_68 rfl rfl ?_
        refine OwnW.callI (a0 := a0) (pc' := 72) (W := 1) (k' := 10) (n' := 21) (argsL := [(.int (2 : Int32)), (.int (2 : Int32))]) (rest := [(.ref ad475)]) at_69 rfl (hw _ (List.mem_of_getElem? (i := 3) rfl)) (hw _ (List.mem_of_getElem? (i := 4) rfl)) (hw _ (List.mem_of_getElem? (i := 2) rfl)) (hw _ (List.mem_of_getElem? (i := 5) rfl)) (by decide) (rm1 l Z a0 hw ad475 h475 n0 sz_ad475 ge_ad475 A475 F475_lower F475_upper F475_assignments) (by decide) (by decide) rfl rfl (by decide) (by decide) rfl pd_28II29V rfl rfl rfl (Nat.le_of_ble_eq_true rfl) rfl ?_
        rintro h476 v476 ⟨ad476_0, ad476_1, ad476_2, kc476_0, kc476_1, kc476_2, kc476_3, kc476_4, kc476_5, rfl, K476, gl476_0, gl476_1, gl476_2, nn476_0_1, nn476_0_2, nn476_1_2, pp476_0, pp476_1, Fc476_0, Fc476_1, Fc476_2, Fc476_3, Fc476_4, Fc476_5, Fc476_6, Fc476_7, Fc476_8, Fc476_9, Fc476_10, Fc476_11, Fc476_12, Fc476_13⟩
        have lt_ad475_ad476_0 : @LT.lt Nat _ ad475 ad476_0 := Nat.lt_of_lt_of_le (A475).lt gl476_0
        have ge_ad476_0 : n0 ≤ ad476_0 := Nat.le_trans sz_ad475 gl476_0
        have lt_ad475_ad476_1 : @LT.lt Nat _ ad475 ad476_1 := Nat.lt_of_lt_of_le (A475).lt gl476_1
        have ge_ad476_1 : n0 ≤ ad476_1 := Nat.le_trans sz_ad475 gl476_1
        have lt_ad475_ad476_2 : @LT.lt Nat _ ad475 ad476_2 := Nat.lt_of_lt_of_le (A475).lt gl476_2
        have ge_ad476_2 : n0 ≤ ad476_2 := Nat.le_trans sz_ad475 gl476_2
        have sz477 : n0 ≤ h476.size := Nat.le_trans sz_ad475 K476.1
        show GoB0 l Z n0 OwnW.One1 h476 10 21 72 #[.val (.int sel), .val (.long est), .second, .val (.long lo1), .second, .val (.long up1), .second, .val (.long lo2), .second, .val (.long up2), .second, .val (.int (1 : Int32)), .val (.int (1 : Int32)), .val (.int (3 : Int32)), .val (.int (0 : Int32)), .val (.int (0 : Int32)), .val (.int (0 : Int32)), .val (.int sb), .unset] [(.ref ad475)]
        refine OwnW.astore (pc' := 74) (L' := #[.val (.int sel), .val (.long est), .second, .val (.long lo1), .second, .val (.long up1), .second, .val (.long lo2), .second, .val (.long up2), .second, .val (.int (1 : Int32)), .val (.int (1 : Int32)), .val (.int (3 : Int32)), .val (.int (0 : Int32)), .val (.int (0 : Int32)), .val (.int (0 : Int32)), .val (.int sb), .val (.ref ad475)]) at_72 (rfl) rfl rfl ?_
        refine OwnW.iload (pc' := 76) at_74 rfl rfl ?_
        by_cases hc76 : sb = (0 : Int32)
        ·
          refine OwnW.ifcY (pc' := 92) at_76 ((if0 _ _).trans (teq hc76).1) (by decide) (by decide) ?_
          refine OwnW.aload (pc' := 94) at_92 rfl (rfl) rfl ?_
          refine OwnW.iload (pc' := 96) at_94 rfl rfl ?_
          refine OwnW.iload (pc' := 98) at_96 rfl rfl ?_
          refine OwnW.lload (pc' := 100) at_98 rfl rfl ?_
          refine OwnW.lload (pc' := 102) at_100 rfl rfl ?_
          refine OwnW.aconstNull (pc' := 103) at_102 rfl ?_
          refine OwnW.callV (a0 := a0) (pc' := 106) (W := 0) (k' := 10) (n' := 21) (argsL := [(.int (0 : Int32)), (.int (0 : Int32)), (.long lo2), (.long up2), .null]) (rest := []) at_103 (hw _ (List.mem_of_getElem? (i := 26) rfl)) (hw _ (List.mem_of_getElem? (i := 27) rfl)) (hw _ (List.mem_of_getElem? (i := 29) rfl)) (hw _ (List.mem_of_getElem? (i := 28) rfl)) (hw _ (List.mem_of_getElem? (i := 2) rfl)) (hw _ (List.mem_of_getElem? (i := 30) rfl)) (by decide) Fc476_0 (rm4_00 l Z a0 hw ad475 lo2 up2 ad476_0 (ad476_0 + 1) (ad476_0 + 2) kc476_0 kc476_1 (0 : Int64) (0 : Int64) ad476_1 (ad476_1 + 1) (ad476_1 + 2) kc476_2 kc476_3 (9223372036854775807 : Int64) (9223372036854775807 : Int64) ad476_2 (ad476_2 + 1) (ad476_2 + 2) kc476_4 kc476_5 h476 n0 sz477 (Nat.le_trans ge_ad476_0 (Nat.le_add_right _ _)) (Nat.le_trans ge_ad476_1 (Nat.le_add_right _ _)) (Nat.le_trans ge_ad476_2 (Nat.le_add_right _ _)) Fc476_0 Fc476_1 Fc476_4 Fc476_5 Fc476_2 Fc476_7 Fc476_8 Fc476_3 Fc476_10 Fc476_11 (by omega : @Ne Nat (ad476_0 + 1) ad476_1) (by omega : @Ne Nat (ad476_0 + 1) (ad476_1 + 1)) (by omega : @Ne Nat (ad476_0 + 1) ad476_2) (by omega : @Ne Nat (ad476_0 + 1) (ad476_2 + 1)) (by omega : @Ne Nat (ad476_0 + 1) ad475) (by omega : @Ne Nat (ad476_0 + 1) ad476_0) (by omega : @Ne Nat (ad476_1 + 1) ad476_2) (by omega : @Ne Nat (ad476_1 + 1) (ad476_2 + 1)) (by omega : @Ne Nat (ad476_1 + 1) ad475) (by omega : @Ne Nat (ad476_1 + 1) ad476_0) (by omega : @Ne Nat (ad476_1 + 1) ad476_1) (by omega : @Ne Nat (ad476_2 + 1) ad475) (by omega : @Ne Nat (ad476_2 + 1) ad476_0) (by omega : @Ne Nat (ad476_2 + 1) ad476_1) (by omega : @Ne Nat (ad476_2 + 1) ad476_2)) (by decide) (by decide) rfl rfl (by decide) (by decide) rfl pd_28IIJJLcom2fexample2fparley2fparley2ftreesearch2fSubtreeAssignment3b29V rfl rfl rfl (Nat.le_of_ble_eq_true rfl) rfl ?_
          rintro h478 v478 ⟨rfl, K478, Fc478_0, Fc478_1, Fc478_2⟩
          have sz479 : n0 ≤ h478.size := Nat.le_trans sz477 K478.1
          show GoB0 l Z n0 OwnW.One1 h478 10 21 106 #[.val (.int sel), .val (.long est), .second, .val (.long lo1), .second, .val (.long up1), .second, .val (.long lo2), .second, .val (.long up2), .second, .val (.int (1 : Int32)), .val (.int (1 : Int32)), .val (.int (3 : Int32)), .val (.int (0 : Int32)), .val (.int (0 : Int32)), .val (.int (0 : Int32)), .val (.int sb), .val (.ref ad475)] []
          refine OwnW.aload (pc' := 108) at_106 rfl (rfl) rfl ?_
          refine OwnW.iload (pc' := 110) at_108 rfl rfl ?_
          refine OwnW.iload (pc' := 112) at_110 rfl rfl ?_
          refine OwnW.lloadN (pc' := 113) at_112 rfl rfl ?_
          have F480 := (Fc476_0.keep K478)
          have F481 := (Fc476_1.keep K478 (ninS (by omega : @Ne Nat ad475 (ad476_0 + 1)) (ninS (by omega : @Ne Nat ad475 (ad476_1 + 1)) (ninS (by omega : @Ne Nat ad475 (ad476_2 + 1)) nin0))))
          have F482 := (Fc476_4.keep K478 (ninS (by omega : @Ne Nat ad476_0 (ad476_0 + 1)) (ninS (by omega : @Ne Nat ad476_0 (ad476_1 + 1)) (ninS (by omega : @Ne Nat ad476_0 (ad476_2 + 1)) nin0))))
          have F483 := (Fc476_6.keep K478 (ninS (by omega : @Ne Nat (ad476_0 + 2) (ad476_0 + 1)) (ninS (by omega : @Ne Nat (ad476_0 + 2) (ad476_1 + 1)) (ninS (by omega : @Ne Nat (ad476_0 + 2) (ad476_2 + 1)) nin0))))
          have F484 := (Fc476_2.keep K478 (ninS (by omega : @Ne Nat ad475 (ad476_0 + 1)) (ninS (by omega : @Ne Nat ad475 (ad476_1 + 1)) (ninS (by omega : @Ne Nat ad475 (ad476_2 + 1)) nin0))))
          have F485 := (Fc476_7.keep K478 (ninS (by omega : @Ne Nat ad476_1 (ad476_0 + 1)) (ninS (by omega : @Ne Nat ad476_1 (ad476_1 + 1)) (ninS (by omega : @Ne Nat ad476_1 (ad476_2 + 1)) nin0))))
          have F486 := (Fc476_9.keep K478 (ninS (by omega : @Ne Nat (ad476_1 + 2) (ad476_0 + 1)) (ninS (by omega : @Ne Nat (ad476_1 + 2) (ad476_1 + 1)) (ninS (by omega : @Ne Nat (ad476_1 + 2) (ad476_2 + 1)) nin0))))
          have F487 := (Fc476_3.keep K478 (ninS (by omega : @Ne Nat ad475 (ad476_0 + 1)) (ninS (by omega : @Ne Nat ad475 (ad476_1 + 1)) (ninS (by omega : @Ne Nat ad475 (ad476_2 + 1)) nin0))))
          have F488 := (Fc476_10.keep K478 (ninS (by omega : @Ne Nat ad476_2 (ad476_0 + 1)) (ninS (by omega : @Ne Nat ad476_2 (ad476_1 + 1)) (ninS (by omega : @Ne Nat ad476_2 (ad476_2 + 1)) nin0))))
          have F489 := (Fc476_12.keep K478 (ninS (by omega : @Ne Nat (ad476_2 + 2) (ad476_0 + 1)) (ninS (by omega : @Ne Nat (ad476_2 + 2) (ad476_1 + 1)) (ninS (by omega : @Ne Nat (ad476_2 + 2) (ad476_2 + 1)) nin0))))
          refine OwnW.callV (a0 := a0) (pc' := 116) (W := 0) (k' := 10) (n' := 21) (argsL := [(.int (1 : Int32)), (.int (1 : Int32)), (.long est)]) (rest := []) at_113 (hw _ (List.mem_of_getElem? (i := 31) rfl)) (hw _ (List.mem_of_getElem? (i := 32) rfl)) (hw _ (List.mem_of_getElem? (i := 34) rfl)) (hw _ (List.mem_of_getElem? (i := 33) rfl)) (hw _ (List.mem_of_getElem? (i := 2) rfl)) (hw _ (List.mem_of_getElem? (i := 35) rfl)) (by decide) F480 (rm5_11 l Z a0 hw ad475 est ad476_0 (ad476_0 + 1) (ad476_0 + 2) kc476_0 kc476_1 (0 : Int64) (0 : Int64) ad476_1 (ad476_1 + 1) (ad476_1 + 2) kc476_2 kc476_3 (9223372036854775807 : Int64) (9223372036854775807 : Int64) ad476_2 (ad476_2 + 1) (ad476_2 + 2) kc476_4 kc476_5 h478 n0 sz479 (Nat.le_trans ge_ad476_0 (Nat.le_add_right _ _)) (Nat.le_trans ge_ad476_1 (Nat.le_add_right _ _)) (Nat.le_trans ge_ad476_2 (Nat.le_add_right _ _)) F480 F481 F482 F483 F484 F485 F486 F487 F488 F489 (by omega : @Ne Nat (ad476_0 + 2) ad476_1) (by omega : @Ne Nat (ad476_0 + 2) (ad476_1 + 2)) (by omega : @Ne Nat (ad476_0 + 2) ad476_2) (by omega : @Ne Nat (ad476_0 + 2) (ad476_2 + 2)) (by omega : @Ne Nat (ad476_0 + 2) ad475) (by omega : @Ne Nat (ad476_0 + 2) ad476_0) (by omega : @Ne Nat (ad476_1 + 2) ad476_2) (by omega : @Ne Nat (ad476_1 + 2) (ad476_2 + 2)) (by omega : @Ne Nat (ad476_1 + 2) ad475) (by omega : @Ne Nat (ad476_1 + 2) ad476_0) (by omega : @Ne Nat (ad476_1 + 2) ad476_1) (by omega : @Ne Nat (ad476_2 + 2) ad475) (by omega : @Ne Nat (ad476_2 + 2) ad476_0) (by omega : @Ne Nat (ad476_2 + 2) ad476_1) (by omega : @Ne Nat (ad476_2 + 2) ad476_2)) (by decide) (by decide) rfl rfl (by decide) (by decide) rfl pd_28IIJ29V rfl rfl rfl (Nat.le_of_ble_eq_true rfl) rfl ?_
          rintro h490 v490 ⟨rfl, K490, Fc490_0, Fc490_1, Fc490_2⟩
          have sz491 : n0 ≤ h490.size := Nat.le_trans sz479 K490.1
          show GoB0 l Z n0 OwnW.One1 h490 10 21 116 #[.val (.int sel), .val (.long est), .second, .val (.long lo1), .second, .val (.long up1), .second, .val (.long lo2), .second, .val (.long up2), .second, .val (.int (1 : Int32)), .val (.int (1 : Int32)), .val (.int (3 : Int32)), .val (.int (0 : Int32)), .val (.int (0 : Int32)), .val (.int (0 : Int32)), .val (.int sb), .val (.ref ad475)] []
          refine OwnW.aload (pc' := 118) at_116 rfl (rfl) rfl ?_
          refine OwnW.iload (pc' := 120) at_118 rfl rfl ?_
          refine OwnW.iload (pc' := 122) at_120 rfl rfl ?_
          have F492 := (F481.keep K490 (ninS (by omega : @Ne Nat ad475 (ad476_0 + 2)) (ninS (by omega : @Ne Nat ad475 (ad476_1 + 2)) (ninS (by omega : @Ne Nat ad475 (ad476_2 + 2)) nin0))))
          have F493 := (F482.keep K490 (ninS (by omega : @Ne Nat ad476_0 (ad476_0 + 2)) (ninS (by omega : @Ne Nat ad476_0 (ad476_1 + 2)) (ninS (by omega : @Ne Nat ad476_0 (ad476_2 + 2)) nin0))))
          have F494 := (F480.keep K490)
          refine OwnW.callV0 (a0 := a0) (pc' := 125) (W := 0) (k' := 10) (n' := 21) (argsL := [(.int (1 : Int32)), (.int (1 : Int32))]) (rest := []) (St' := [(.long (f6_11 ad475 ad476_0 (ad476_0 + 1) (ad476_0 + 2) kc476_0 kc476_1 (0 : Int64) est))]) at_122 (hw _ (List.mem_of_getElem? (i := 36) rfl)) (hw _ (List.mem_of_getElem? (i := 37) rfl)) (hw _ (List.mem_of_getElem? (i := 39) rfl)) (hw _ (List.mem_of_getElem? (i := 38) rfl)) (hw _ (List.mem_of_getElem? (i := 2) rfl)) (hw _ (List.mem_of_getElem? (i := 40) rfl)) (by decide) F494 (rm6_11 l Z a0 hw ad475 ad476_0 (ad476_0 + 1) (ad476_0 + 2) kc476_0 kc476_1 (0 : Int64) est h490 n0 F492 F493 Fc490_0) (by decide) (by decide) rfl rfl (by decide) (by decide) rfl pd_28II29J rfl rfl rfl (Nat.le_of_ble_eq_true rfl) rfl rfl ?_
          refine OwnW.lloadN (pc' := 126) at_125 rfl rfl ?_
          refine OwnW.lcmp (pc' := 127) at_126 rfl ?_
          refine OwnW.ifcN (pc' := 130) at_127 ((if0 _ _).trans (teq ((lw_eq _ _).mpr rfl)).2) rfl ?_
          refine OwnW.aload (pc' := 132) at_130 rfl (rfl) rfl ?_
          refine OwnW.iload (pc' := 134) at_132 rfl rfl ?_
          refine OwnW.iload (pc' := 136) at_134 rfl rfl ?_
          have F495 := (F484.keep K490 (ninS (by omega : @Ne Nat ad475 (ad476_0 + 2)) (ninS (by omega : @Ne Nat ad475 (ad476_1 + 2)) (ninS (by omega : @Ne Nat ad475 (ad476_2 + 2)) nin0))))
          have F496 := (F485.keep K490 (ninS (by omega : @Ne Nat ad476_1 (ad476_0 + 2)) (ninS (by omega : @Ne Nat ad476_1 (ad476_1 + 2)) (ninS (by omega : @Ne Nat ad476_1 (ad476_2 + 2)) nin0))))
          refine OwnW.callV0 (a0 := a0) (pc' := 139) (W := 0) (k' := 10) (n' := 21) (argsL := [(.int (1 : Int32)), (.int (1 : Int32))]) (rest := []) (St' := [(.long (f7_11 ad475 ad476_1 (ad476_1 + 1) (ad476_1 + 2) kc476_2 kc476_3 (9223372036854775807 : Int64) (9223372036854775807 : Int64)))]) at_136 (hw _ (List.mem_of_getElem? (i := 41) rfl)) (hw _ (List.mem_of_getElem? (i := 42) rfl)) (hw _ (List.mem_of_getElem? (i := 44) rfl)) (hw _ (List.mem_of_getElem? (i := 43) rfl)) (hw _ (List.mem_of_getElem? (i := 2) rfl)) (hw _ (List.mem_of_getElem? (i := 45) rfl)) (by decide) F494 (rm7_11 l Z a0 hw ad475 ad476_1 (ad476_1 + 1) (ad476_1 + 2) kc476_2 kc476_3 (9223372036854775807 : Int64) (9223372036854775807 : Int64) h490 n0 F495 F496 Fc490_1) (by decide) (by decide) rfl rfl (by decide) (by decide) rfl pd_28II29J rfl rfl rfl (Nat.le_of_ble_eq_true rfl) rfl rfl ?_
          refine OwnW.ldc2J (a0 := a0) (pc' := 142) (v := (9223372036854775807 : Int64)) at_139 (hw _ (List.mem_of_getElem? (i := 46) rfl)) rfl ?_
          refine OwnW.lcmp (pc' := 143) at_142 rfl ?_
          refine OwnW.ifcN (pc' := 146) at_143 ((if0 _ _).trans (teq ((lw_eq _ _).mpr rfl)).2) rfl ?_
          refine OwnW.aload (pc' := 148) at_146 rfl (rfl) rfl ?_
          refine OwnW.iload (pc' := 150) at_148 rfl rfl ?_
          refine OwnW.iload (pc' := 152) at_150 rfl rfl ?_
          have F497 := (Fc478_0.keep K490 (ninS (by omega : @Ne Nat (ad476_0 + 1) (ad476_0 + 2)) (ninS (by omega : @Ne Nat (ad476_0 + 1) (ad476_1 + 2)) (ninS (by omega : @Ne Nat (ad476_0 + 1) (ad476_2 + 2)) nin0))))
          refine OwnW.callV0 (a0 := a0) (pc' := 155) (W := 0) (k' := 10) (n' := 21) (argsL := [(.int (0 : Int32)), (.int (0 : Int32))]) (rest := []) (St' := [(.long (f6_00 ad475 ad476_0 (ad476_0 + 1) (ad476_0 + 2) kc476_0 kc476_1 lo2 (0 : Int64)))]) at_152 (hw _ (List.mem_of_getElem? (i := 36) rfl)) (hw _ (List.mem_of_getElem? (i := 37) rfl)) (hw _ (List.mem_of_getElem? (i := 39) rfl)) (hw _ (List.mem_of_getElem? (i := 38) rfl)) (hw _ (List.mem_of_getElem? (i := 2) rfl)) (hw _ (List.mem_of_getElem? (i := 40) rfl)) (by decide) F494 (rm6_00 l Z a0 hw ad475 ad476_0 (ad476_0 + 1) (ad476_0 + 2) kc476_0 kc476_1 lo2 (0 : Int64) h490 n0 F492 F493 F497) (by decide) (by decide) rfl rfl (by decide) (by decide) rfl pd_28II29J rfl rfl rfl (Nat.le_of_ble_eq_true rfl) rfl rfl ?_
          refine OwnW.lload (pc' := 157) at_155 rfl rfl ?_
          refine OwnW.lcmp (pc' := 158) at_157 rfl ?_
          refine OwnW.ifcN (pc' := 161) at_158 ((if0 _ _).trans (teq ((lw_eq _ _).mpr rfl)).2) rfl ?_
          refine OwnW.aload (pc' := 163) at_161 rfl (rfl) rfl ?_
          refine OwnW.iload (pc' := 165) at_163 rfl rfl ?_
          refine OwnW.iload (pc' := 167) at_165 rfl rfl ?_
          have F498 := (Fc478_1.keep K490 (ninS (by omega : @Ne Nat (ad476_1 + 1) (ad476_0 + 2)) (ninS (by omega : @Ne Nat (ad476_1 + 1) (ad476_1 + 2)) (ninS (by omega : @Ne Nat (ad476_1 + 1) (ad476_2 + 2)) nin0))))
          refine OwnW.callV0 (a0 := a0) (pc' := 170) (W := 0) (k' := 10) (n' := 21) (argsL := [(.int (0 : Int32)), (.int (0 : Int32))]) (rest := []) (St' := [(.long (f7_00 ad475 ad476_1 (ad476_1 + 1) (ad476_1 + 2) kc476_2 kc476_3 up2 (9223372036854775807 : Int64)))]) at_167 (hw _ (List.mem_of_getElem? (i := 41) rfl)) (hw _ (List.mem_of_getElem? (i := 42) rfl)) (hw _ (List.mem_of_getElem? (i := 44) rfl)) (hw _ (List.mem_of_getElem? (i := 43) rfl)) (hw _ (List.mem_of_getElem? (i := 2) rfl)) (hw _ (List.mem_of_getElem? (i := 45) rfl)) (by decide) F494 (rm7_00 l Z a0 hw ad475 ad476_1 (ad476_1 + 1) (ad476_1 + 2) kc476_2 kc476_3 up2 (9223372036854775807 : Int64) h490 n0 F495 F496 F498) (by decide) (by decide) rfl rfl (by decide) (by decide) rfl pd_28II29J rfl rfl rfl (Nat.le_of_ble_eq_true rfl) rfl rfl ?_
          refine OwnW.lload (pc' := 172) at_170 rfl rfl ?_
          refine OwnW.lcmp (pc' := 173) at_172 rfl ?_
          refine OwnW.ifcN (pc' := 176) at_173 ((if0 _ _).trans (teq ((lw_eq _ _).mpr rfl)).2) rfl ?_
          refine OwnW.iconst (pc' := 177) (v := (1 : Int32)) at_176 rfl rfl ?_
          refine OwnW.goto (pc' := 181) at_177 (by decide) (by decide) ?_
          exact OwnW.retN (t := .boolean) at_181 rfl (by simp) rfl (by decide) (by decide) (rfl)
        ·
          refine OwnW.ifcN (pc' := 79) at_76 ((if0 _ _).trans (feq hc76).1) rfl ?_
          refine OwnW.aload (pc' := 81) at_79 rfl (rfl) rfl ?_
          refine OwnW.iload (pc' := 83) at_81 rfl rfl ?_
          refine OwnW.iload (pc' := 85) at_83 rfl rfl ?_
          refine OwnW.lloadN (pc' := 86) at_85 rfl rfl ?_
          refine OwnW.lload (pc' := 88) at_86 rfl rfl ?_
          refine OwnW.aconstNull (pc' := 89) at_88 rfl ?_
          refine OwnW.callV (a0 := a0) (pc' := 92) (W := 0) (k' := 10) (n' := 21) (argsL := [(.int (1 : Int32)), (.int (1 : Int32)), (.long lo1), (.long up1), .null]) (rest := []) at_89 (hw _ (List.mem_of_getElem? (i := 26) rfl)) (hw _ (List.mem_of_getElem? (i := 27) rfl)) (hw _ (List.mem_of_getElem? (i := 29) rfl)) (hw _ (List.mem_of_getElem? (i := 28) rfl)) (hw _ (List.mem_of_getElem? (i := 2) rfl)) (hw _ (List.mem_of_getElem? (i := 30) rfl)) (by decide) Fc476_0 (rm4_11 l Z a0 hw ad475 lo1 up1 ad476_0 (ad476_0 + 1) (ad476_0 + 2) kc476_0 kc476_1 (0 : Int64) (0 : Int64) ad476_1 (ad476_1 + 1) (ad476_1 + 2) kc476_2 kc476_3 (9223372036854775807 : Int64) (9223372036854775807 : Int64) ad476_2 (ad476_2 + 1) (ad476_2 + 2) kc476_4 kc476_5 h476 n0 sz477 (Nat.le_trans ge_ad476_0 (Nat.le_add_right _ _)) (Nat.le_trans ge_ad476_1 (Nat.le_add_right _ _)) (Nat.le_trans ge_ad476_2 (Nat.le_add_right _ _)) Fc476_0 Fc476_1 Fc476_4 Fc476_6 Fc476_2 Fc476_7 Fc476_9 Fc476_3 Fc476_10 Fc476_12 (by omega : @Ne Nat (ad476_0 + 2) ad476_1) (by omega : @Ne Nat (ad476_0 + 2) (ad476_1 + 2)) (by omega : @Ne Nat (ad476_0 + 2) ad476_2) (by omega : @Ne Nat (ad476_0 + 2) (ad476_2 + 2)) (by omega : @Ne Nat (ad476_0 + 2) ad475) (by omega : @Ne Nat (ad476_0 + 2) ad476_0) (by omega : @Ne Nat (ad476_1 + 2) ad476_2) (by omega : @Ne Nat (ad476_1 + 2) (ad476_2 + 2)) (by omega : @Ne Nat (ad476_1 + 2) ad475) (by omega : @Ne Nat (ad476_1 + 2) ad476_0) (by omega : @Ne Nat (ad476_1 + 2) ad476_1) (by omega : @Ne Nat (ad476_2 + 2) ad475) (by omega : @Ne Nat (ad476_2 + 2) ad476_0) (by omega : @Ne Nat (ad476_2 + 2) ad476_1) (by omega : @Ne Nat (ad476_2 + 2) ad476_2)) (by decide) (by decide) rfl rfl (by decide) (by decide) rfl pd_28IIJJLcom2fexample2fparley2fparley2ftreesearch2fSubtreeAssignment3b29V rfl rfl rfl (Nat.le_of_ble_eq_true rfl) rfl ?_
          rintro h499 v499 ⟨rfl, K499, Fc499_0, Fc499_1, Fc499_2⟩
          have sz500 : n0 ≤ h499.size := Nat.le_trans sz477 K499.1
          show GoB0 l Z n0 OwnW.One1 h499 10 21 92 #[.val (.int sel), .val (.long est), .second, .val (.long lo1), .second, .val (.long up1), .second, .val (.long lo2), .second, .val (.long up2), .second, .val (.int (1 : Int32)), .val (.int (1 : Int32)), .val (.int (3 : Int32)), .val (.int (0 : Int32)), .val (.int (0 : Int32)), .val (.int (0 : Int32)), .val (.int sb), .val (.ref ad475)] []
          refine OwnW.aload (pc' := 94) at_92 rfl (rfl) rfl ?_
          refine OwnW.iload (pc' := 96) at_94 rfl rfl ?_
          refine OwnW.iload (pc' := 98) at_96 rfl rfl ?_
          refine OwnW.lload (pc' := 100) at_98 rfl rfl ?_
          refine OwnW.lload (pc' := 102) at_100 rfl rfl ?_
          refine OwnW.aconstNull (pc' := 103) at_102 rfl ?_
          have F501 := (Fc476_0.keep K499)
          have F502 := (Fc476_1.keep K499 (ninS (by omega : @Ne Nat ad475 (ad476_0 + 2)) (ninS (by omega : @Ne Nat ad475 (ad476_1 + 2)) (ninS (by omega : @Ne Nat ad475 (ad476_2 + 2)) nin0))))
          have F503 := (Fc476_4.keep K499 (ninS (by omega : @Ne Nat ad476_0 (ad476_0 + 2)) (ninS (by omega : @Ne Nat ad476_0 (ad476_1 + 2)) (ninS (by omega : @Ne Nat ad476_0 (ad476_2 + 2)) nin0))))
          have F504 := (Fc476_5.keep K499 (ninS (by omega : @Ne Nat (ad476_0 + 1) (ad476_0 + 2)) (ninS (by omega : @Ne Nat (ad476_0 + 1) (ad476_1 + 2)) (ninS (by omega : @Ne Nat (ad476_0 + 1) (ad476_2 + 2)) nin0))))
          have F505 := (Fc476_2.keep K499 (ninS (by omega : @Ne Nat ad475 (ad476_0 + 2)) (ninS (by omega : @Ne Nat ad475 (ad476_1 + 2)) (ninS (by omega : @Ne Nat ad475 (ad476_2 + 2)) nin0))))
          have F506 := (Fc476_7.keep K499 (ninS (by omega : @Ne Nat ad476_1 (ad476_0 + 2)) (ninS (by omega : @Ne Nat ad476_1 (ad476_1 + 2)) (ninS (by omega : @Ne Nat ad476_1 (ad476_2 + 2)) nin0))))
          have F507 := (Fc476_8.keep K499 (ninS (by omega : @Ne Nat (ad476_1 + 1) (ad476_0 + 2)) (ninS (by omega : @Ne Nat (ad476_1 + 1) (ad476_1 + 2)) (ninS (by omega : @Ne Nat (ad476_1 + 1) (ad476_2 + 2)) nin0))))
          have F508 := (Fc476_3.keep K499 (ninS (by omega : @Ne Nat ad475 (ad476_0 + 2)) (ninS (by omega : @Ne Nat ad475 (ad476_1 + 2)) (ninS (by omega : @Ne Nat ad475 (ad476_2 + 2)) nin0))))
          have F509 := (Fc476_10.keep K499 (ninS (by omega : @Ne Nat ad476_2 (ad476_0 + 2)) (ninS (by omega : @Ne Nat ad476_2 (ad476_1 + 2)) (ninS (by omega : @Ne Nat ad476_2 (ad476_2 + 2)) nin0))))
          have F510 := (Fc476_11.keep K499 (ninS (by omega : @Ne Nat (ad476_2 + 1) (ad476_0 + 2)) (ninS (by omega : @Ne Nat (ad476_2 + 1) (ad476_1 + 2)) (ninS (by omega : @Ne Nat (ad476_2 + 1) (ad476_2 + 2)) nin0))))
          refine OwnW.callV (a0 := a0) (pc' := 106) (W := 0) (k' := 10) (n' := 21) (argsL := [(.int (0 : Int32)), (.int (0 : Int32)), (.long lo2), (.long up2), .null]) (rest := []) at_103 (hw _ (List.mem_of_getElem? (i := 26) rfl)) (hw _ (List.mem_of_getElem? (i := 27) rfl)) (hw _ (List.mem_of_getElem? (i := 29) rfl)) (hw _ (List.mem_of_getElem? (i := 28) rfl)) (hw _ (List.mem_of_getElem? (i := 2) rfl)) (hw _ (List.mem_of_getElem? (i := 30) rfl)) (by decide) F501 (rm4_00 l Z a0 hw ad475 lo2 up2 ad476_0 (ad476_0 + 1) (ad476_0 + 2) kc476_0 kc476_1 (0 : Int64) (0 : Int64) ad476_1 (ad476_1 + 1) (ad476_1 + 2) kc476_2 kc476_3 (9223372036854775807 : Int64) (9223372036854775807 : Int64) ad476_2 (ad476_2 + 1) (ad476_2 + 2) kc476_4 kc476_5 h499 n0 sz500 (Nat.le_trans ge_ad476_0 (Nat.le_add_right _ _)) (Nat.le_trans ge_ad476_1 (Nat.le_add_right _ _)) (Nat.le_trans ge_ad476_2 (Nat.le_add_right _ _)) F501 F502 F503 F504 F505 F506 F507 F508 F509 F510 (by omega : @Ne Nat (ad476_0 + 1) ad476_1) (by omega : @Ne Nat (ad476_0 + 1) (ad476_1 + 1)) (by omega : @Ne Nat (ad476_0 + 1) ad476_2) (by omega : @Ne Nat (ad476_0 + 1) (ad476_2 + 1)) (by omega : @Ne Nat (ad476_0 + 1) ad475) (by omega : @Ne Nat (ad476_0 + 1) ad476_0) (by omega : @Ne Nat (ad476_1 + 1) ad476_2) (by omega : @Ne Nat (ad476_1 + 1) (ad476_2 + 1)) (by omega : @Ne Nat (ad476_1 + 1) ad475) (by omega : @Ne Nat (ad476_1 + 1) ad476_0) (by omega : @Ne Nat (ad476_1 + 1) ad476_1) (by omega : @Ne Nat (ad476_2 + 1) ad475) (by omega : @Ne Nat (ad476_2 + 1) ad476_0) (by omega : @Ne Nat (ad476_2 + 1) ad476_1) (by omega : @Ne Nat (ad476_2 + 1) ad476_2)) (by decide) (by decide) rfl rfl (by decide) (by decide) rfl pd_28IIJJLcom2fexample2fparley2fparley2ftreesearch2fSubtreeAssignment3b29V rfl rfl rfl (Nat.le_of_ble_eq_true rfl) rfl ?_
          rintro h511 v511 ⟨rfl, K511, Fc511_0, Fc511_1, Fc511_2⟩
          have sz512 : n0 ≤ h511.size := Nat.le_trans sz500 K511.1
          show GoB0 l Z n0 OwnW.One1 h511 10 21 106 #[.val (.int sel), .val (.long est), .second, .val (.long lo1), .second, .val (.long up1), .second, .val (.long lo2), .second, .val (.long up2), .second, .val (.int (1 : Int32)), .val (.int (1 : Int32)), .val (.int (3 : Int32)), .val (.int (0 : Int32)), .val (.int (0 : Int32)), .val (.int (0 : Int32)), .val (.int sb), .val (.ref ad475)] []
          refine OwnW.aload (pc' := 108) at_106 rfl (rfl) rfl ?_
          refine OwnW.iload (pc' := 110) at_108 rfl rfl ?_
          refine OwnW.iload (pc' := 112) at_110 rfl rfl ?_
          refine OwnW.lloadN (pc' := 113) at_112 rfl rfl ?_
          have F513 := (F501.keep K511)
          have F514 := (F502.keep K511 (ninS (by omega : @Ne Nat ad475 (ad476_0 + 1)) (ninS (by omega : @Ne Nat ad475 (ad476_1 + 1)) (ninS (by omega : @Ne Nat ad475 (ad476_2 + 1)) nin0))))
          have F515 := (F503.keep K511 (ninS (by omega : @Ne Nat ad476_0 (ad476_0 + 1)) (ninS (by omega : @Ne Nat ad476_0 (ad476_1 + 1)) (ninS (by omega : @Ne Nat ad476_0 (ad476_2 + 1)) nin0))))
          have F516 := (Fc499_0.keep K511 (ninS (by omega : @Ne Nat (ad476_0 + 2) (ad476_0 + 1)) (ninS (by omega : @Ne Nat (ad476_0 + 2) (ad476_1 + 1)) (ninS (by omega : @Ne Nat (ad476_0 + 2) (ad476_2 + 1)) nin0))))
          have F517 := (F505.keep K511 (ninS (by omega : @Ne Nat ad475 (ad476_0 + 1)) (ninS (by omega : @Ne Nat ad475 (ad476_1 + 1)) (ninS (by omega : @Ne Nat ad475 (ad476_2 + 1)) nin0))))
          have F518 := (F506.keep K511 (ninS (by omega : @Ne Nat ad476_1 (ad476_0 + 1)) (ninS (by omega : @Ne Nat ad476_1 (ad476_1 + 1)) (ninS (by omega : @Ne Nat ad476_1 (ad476_2 + 1)) nin0))))
          have F519 := (Fc499_1.keep K511 (ninS (by omega : @Ne Nat (ad476_1 + 2) (ad476_0 + 1)) (ninS (by omega : @Ne Nat (ad476_1 + 2) (ad476_1 + 1)) (ninS (by omega : @Ne Nat (ad476_1 + 2) (ad476_2 + 1)) nin0))))
          have F520 := (F508.keep K511 (ninS (by omega : @Ne Nat ad475 (ad476_0 + 1)) (ninS (by omega : @Ne Nat ad475 (ad476_1 + 1)) (ninS (by omega : @Ne Nat ad475 (ad476_2 + 1)) nin0))))
          have F521 := (F509.keep K511 (ninS (by omega : @Ne Nat ad476_2 (ad476_0 + 1)) (ninS (by omega : @Ne Nat ad476_2 (ad476_1 + 1)) (ninS (by omega : @Ne Nat ad476_2 (ad476_2 + 1)) nin0))))
          have F522 := (Fc499_2.keep K511 (ninS (by omega : @Ne Nat (ad476_2 + 2) (ad476_0 + 1)) (ninS (by omega : @Ne Nat (ad476_2 + 2) (ad476_1 + 1)) (ninS (by omega : @Ne Nat (ad476_2 + 2) (ad476_2 + 1)) nin0))))
          refine OwnW.callV (a0 := a0) (pc' := 116) (W := 0) (k' := 10) (n' := 21) (argsL := [(.int (1 : Int32)), (.int (1 : Int32)), (.long est)]) (rest := []) at_113 (hw _ (List.mem_of_getElem? (i := 31) rfl)) (hw _ (List.mem_of_getElem? (i := 32) rfl)) (hw _ (List.mem_of_getElem? (i := 34) rfl)) (hw _ (List.mem_of_getElem? (i := 33) rfl)) (hw _ (List.mem_of_getElem? (i := 2) rfl)) (hw _ (List.mem_of_getElem? (i := 35) rfl)) (by decide) F513 (rm5_11 l Z a0 hw ad475 est ad476_0 (ad476_0 + 1) (ad476_0 + 2) kc476_0 kc476_1 (0 : Int64) lo1 ad476_1 (ad476_1 + 1) (ad476_1 + 2) kc476_2 kc476_3 (9223372036854775807 : Int64) up1 ad476_2 (ad476_2 + 1) (ad476_2 + 2) kc476_4 kc476_5 h511 n0 sz512 (Nat.le_trans ge_ad476_0 (Nat.le_add_right _ _)) (Nat.le_trans ge_ad476_1 (Nat.le_add_right _ _)) (Nat.le_trans ge_ad476_2 (Nat.le_add_right _ _)) F513 F514 F515 F516 F517 F518 F519 F520 F521 F522 (by omega : @Ne Nat (ad476_0 + 2) ad476_1) (by omega : @Ne Nat (ad476_0 + 2) (ad476_1 + 2)) (by omega : @Ne Nat (ad476_0 + 2) ad476_2) (by omega : @Ne Nat (ad476_0 + 2) (ad476_2 + 2)) (by omega : @Ne Nat (ad476_0 + 2) ad475) (by omega : @Ne Nat (ad476_0 + 2) ad476_0) (by omega : @Ne Nat (ad476_1 + 2) ad476_2) (by omega : @Ne Nat (ad476_1 + 2) (ad476_2 + 2)) (by omega : @Ne Nat (ad476_1 + 2) ad475) (by omega : @Ne Nat (ad476_1 + 2) ad476_0) (by omega : @Ne Nat (ad476_1 + 2) ad476_1) (by omega : @Ne Nat (ad476_2 + 2) ad475) (by omega : @Ne Nat (ad476_2 + 2) ad476_0) (by omega : @Ne Nat (ad476_2 + 2) ad476_1) (by omega : @Ne Nat (ad476_2 + 2) ad476_2)) (by decide) (by decide) rfl rfl (by decide) (by decide) rfl pd_28IIJ29V rfl rfl rfl (Nat.le_of_ble_eq_true rfl) rfl ?_
          rintro h523 v523 ⟨rfl, K523, Fc523_0, Fc523_1, Fc523_2⟩
          have sz524 : n0 ≤ h523.size := Nat.le_trans sz512 K523.1
          show GoB0 l Z n0 OwnW.One1 h523 10 21 116 #[.val (.int sel), .val (.long est), .second, .val (.long lo1), .second, .val (.long up1), .second, .val (.long lo2), .second, .val (.long up2), .second, .val (.int (1 : Int32)), .val (.int (1 : Int32)), .val (.int (3 : Int32)), .val (.int (0 : Int32)), .val (.int (0 : Int32)), .val (.int (0 : Int32)), .val (.int sb), .val (.ref ad475)] []
          refine OwnW.aload (pc' := 118) at_116 rfl (rfl) rfl ?_
          refine OwnW.iload (pc' := 120) at_118 rfl rfl ?_
          refine OwnW.iload (pc' := 122) at_120 rfl rfl ?_
          have F525 := (F514.keep K523 (ninS (by omega : @Ne Nat ad475 (ad476_0 + 2)) (ninS (by omega : @Ne Nat ad475 (ad476_1 + 2)) (ninS (by omega : @Ne Nat ad475 (ad476_2 + 2)) nin0))))
          have F526 := (F515.keep K523 (ninS (by omega : @Ne Nat ad476_0 (ad476_0 + 2)) (ninS (by omega : @Ne Nat ad476_0 (ad476_1 + 2)) (ninS (by omega : @Ne Nat ad476_0 (ad476_2 + 2)) nin0))))
          have F527 := (F513.keep K523)
          refine OwnW.callV0 (a0 := a0) (pc' := 125) (W := 0) (k' := 10) (n' := 21) (argsL := [(.int (1 : Int32)), (.int (1 : Int32))]) (rest := []) (St' := [(.long (f6_11 ad475 ad476_0 (ad476_0 + 1) (ad476_0 + 2) kc476_0 kc476_1 (0 : Int64) est))]) at_122 (hw _ (List.mem_of_getElem? (i := 36) rfl)) (hw _ (List.mem_of_getElem? (i := 37) rfl)) (hw _ (List.mem_of_getElem? (i := 39) rfl)) (hw _ (List.mem_of_getElem? (i := 38) rfl)) (hw _ (List.mem_of_getElem? (i := 2) rfl)) (hw _ (List.mem_of_getElem? (i := 40) rfl)) (by decide) F527 (rm6_11 l Z a0 hw ad475 ad476_0 (ad476_0 + 1) (ad476_0 + 2) kc476_0 kc476_1 (0 : Int64) est h523 n0 F525 F526 Fc523_0) (by decide) (by decide) rfl rfl (by decide) (by decide) rfl pd_28II29J rfl rfl rfl (Nat.le_of_ble_eq_true rfl) rfl rfl ?_
          refine OwnW.lloadN (pc' := 126) at_125 rfl rfl ?_
          refine OwnW.lcmp (pc' := 127) at_126 rfl ?_
          refine OwnW.ifcN (pc' := 130) at_127 ((if0 _ _).trans (teq ((lw_eq _ _).mpr rfl)).2) rfl ?_
          refine OwnW.aload (pc' := 132) at_130 rfl (rfl) rfl ?_
          refine OwnW.iload (pc' := 134) at_132 rfl rfl ?_
          refine OwnW.iload (pc' := 136) at_134 rfl rfl ?_
          have F528 := (F517.keep K523 (ninS (by omega : @Ne Nat ad475 (ad476_0 + 2)) (ninS (by omega : @Ne Nat ad475 (ad476_1 + 2)) (ninS (by omega : @Ne Nat ad475 (ad476_2 + 2)) nin0))))
          have F529 := (F518.keep K523 (ninS (by omega : @Ne Nat ad476_1 (ad476_0 + 2)) (ninS (by omega : @Ne Nat ad476_1 (ad476_1 + 2)) (ninS (by omega : @Ne Nat ad476_1 (ad476_2 + 2)) nin0))))
          refine OwnW.callV0 (a0 := a0) (pc' := 139) (W := 0) (k' := 10) (n' := 21) (argsL := [(.int (1 : Int32)), (.int (1 : Int32))]) (rest := []) (St' := [(.long (f7_11 ad475 ad476_1 (ad476_1 + 1) (ad476_1 + 2) kc476_2 kc476_3 (9223372036854775807 : Int64) (9223372036854775807 : Int64)))]) at_136 (hw _ (List.mem_of_getElem? (i := 41) rfl)) (hw _ (List.mem_of_getElem? (i := 42) rfl)) (hw _ (List.mem_of_getElem? (i := 44) rfl)) (hw _ (List.mem_of_getElem? (i := 43) rfl)) (hw _ (List.mem_of_getElem? (i := 2) rfl)) (hw _ (List.mem_of_getElem? (i := 45) rfl)) (by decide) F527 (rm7_11 l Z a0 hw ad475 ad476_1 (ad476_1 + 1) (ad476_1 + 2) kc476_2 kc476_3 (9223372036854775807 : Int64) (9223372036854775807 : Int64) h523 n0 F528 F529 Fc523_1) (by decide) (by decide) rfl rfl (by decide) (by decide) rfl pd_28II29J rfl rfl rfl (Nat.le_of_ble_eq_true rfl) rfl rfl ?_
          refine OwnW.ldc2J (a0 := a0) (pc' := 142) (v := (9223372036854775807 : Int64)) at_139 (hw _ (List.mem_of_getElem? (i := 46) rfl)) rfl ?_
          refine OwnW.lcmp (pc' := 143) at_142 rfl ?_
          refine OwnW.ifcN (pc' := 146) at_143 ((if0 _ _).trans (teq ((lw_eq _ _).mpr rfl)).2) rfl ?_
          refine OwnW.aload (pc' := 148) at_146 rfl (rfl) rfl ?_
          refine OwnW.iload (pc' := 150) at_148 rfl rfl ?_
          refine OwnW.iload (pc' := 152) at_150 rfl rfl ?_
          have F530 := (Fc511_0.keep K523 (ninS (by omega : @Ne Nat (ad476_0 + 1) (ad476_0 + 2)) (ninS (by omega : @Ne Nat (ad476_0 + 1) (ad476_1 + 2)) (ninS (by omega : @Ne Nat (ad476_0 + 1) (ad476_2 + 2)) nin0))))
          refine OwnW.callV0 (a0 := a0) (pc' := 155) (W := 0) (k' := 10) (n' := 21) (argsL := [(.int (0 : Int32)), (.int (0 : Int32))]) (rest := []) (St' := [(.long (f6_00 ad475 ad476_0 (ad476_0 + 1) (ad476_0 + 2) kc476_0 kc476_1 lo2 (0 : Int64)))]) at_152 (hw _ (List.mem_of_getElem? (i := 36) rfl)) (hw _ (List.mem_of_getElem? (i := 37) rfl)) (hw _ (List.mem_of_getElem? (i := 39) rfl)) (hw _ (List.mem_of_getElem? (i := 38) rfl)) (hw _ (List.mem_of_getElem? (i := 2) rfl)) (hw _ (List.mem_of_getElem? (i := 40) rfl)) (by decide) F527 (rm6_00 l Z a0 hw ad475 ad476_0 (ad476_0 + 1) (ad476_0 + 2) kc476_0 kc476_1 lo2 (0 : Int64) h523 n0 F525 F526 F530) (by decide) (by decide) rfl rfl (by decide) (by decide) rfl pd_28II29J rfl rfl rfl (Nat.le_of_ble_eq_true rfl) rfl rfl ?_
          refine OwnW.lload (pc' := 157) at_155 rfl rfl ?_
          refine OwnW.lcmp (pc' := 158) at_157 rfl ?_
          refine OwnW.ifcN (pc' := 161) at_158 ((if0 _ _).trans (teq ((lw_eq _ _).mpr rfl)).2) rfl ?_
          refine OwnW.aload (pc' := 163) at_161 rfl (rfl) rfl ?_
          refine OwnW.iload (pc' := 165) at_163 rfl rfl ?_
          refine OwnW.iload (pc' := 167) at_165 rfl rfl ?_
          have F531 := (Fc511_1.keep K523 (ninS (by omega : @Ne Nat (ad476_1 + 1) (ad476_0 + 2)) (ninS (by omega : @Ne Nat (ad476_1 + 1) (ad476_1 + 2)) (ninS (by omega : @Ne Nat (ad476_1 + 1) (ad476_2 + 2)) nin0))))
          refine OwnW.callV0 (a0 := a0) (pc' := 170) (W := 0) (k' := 10) (n' := 21) (argsL := [(.int (0 : Int32)), (.int (0 : Int32))]) (rest := []) (St' := [(.long (f7_00 ad475 ad476_1 (ad476_1 + 1) (ad476_1 + 2) kc476_2 kc476_3 up2 (9223372036854775807 : Int64)))]) at_167 (hw _ (List.mem_of_getElem? (i := 41) rfl)) (hw _ (List.mem_of_getElem? (i := 42) rfl)) (hw _ (List.mem_of_getElem? (i := 44) rfl)) (hw _ (List.mem_of_getElem? (i := 43) rfl)) (hw _ (List.mem_of_getElem? (i := 2) rfl)) (hw _ (List.mem_of_getElem? (i := 45) rfl)) (by decide) F527 (rm7_00 l Z a0 hw ad475 ad476_1 (ad476_1 + 1) (ad476_1 + 2) kc476_2 kc476_3 up2 (9223372036854775807 : Int64) h523 n0 F528 F529 F531) (by decide) (by decide) rfl rfl (by decide) (by decide) rfl pd_28II29J rfl rfl rfl (Nat.le_of_ble_eq_true rfl) rfl rfl ?_
          refine OwnW.lload (pc' := 172) at_170 rfl rfl ?_
          refine OwnW.lcmp (pc' := 173) at_172 rfl ?_
          refine OwnW.ifcN (pc' := 176) at_173 ((if0 _ _).trans (teq ((lw_eq _ _).mpr rfl)).2) rfl ?_
          refine OwnW.iconst (pc' := 177) (v := (1 : Int32)) at_176 rfl rfl ?_
          refine OwnW.goto (pc' := 181) at_177 (by decide) (by decide) ?_
          exact OwnW.retN (t := .boolean) at_181 rfl (by simp) rfl (by decide) (by decide) (rfl)
      ·
        show GoB0 l Z n0 OwnW.One1 h0 0 0 32 #[.val (.int sel), .val (.long est), .second, .val (.long lo1), .second, .val (.long up1), .second, .val (.long lo2), .second, .val (.long up2), .second, .val (.int (1 : Int32)), .val (.int (1 : Int32)), .val (.int (3 : Int32)), .unset, .unset, .unset, .unset, .unset] [(.int (1 : Int32)), (.int (4 : Int32))]
        refine OwnW.iadd (pc' := 33) at_32 rfl ?_
        show GoB0 l Z n0 OwnW.One1 h0 0 0 33 #[.val (.int sel), .val (.long est), .second, .val (.long lo1), .second, .val (.long up1), .second, .val (.long lo2), .second, .val (.long up2), .second, .val (.int (1 : Int32)), .val (.int (1 : Int32)), .val (.int (3 : Int32)), .unset, .unset, .unset, .unset, .unset] [(.int (5 : Int32))]
        refine OwnW.iconst (pc' := 34) (v := (3 : Int32)) at_33 rfl rfl ?_
        refine OwnW.iand (pc' := 35) at_34 rfl ?_
        show GoB0 l Z n0 OwnW.One1 h0 0 0 35 #[.val (.int sel), .val (.long est), .second, .val (.long lo1), .second, .val (.long up1), .second, .val (.long lo2), .second, .val (.long up2), .second, .val (.int (1 : Int32)), .val (.int (1 : Int32)), .val (.int (3 : Int32)), .unset, .unset, .unset, .unset, .unset] [(.int (1 : Int32))]
        refine OwnW.istore (pc' := 37) (L' := #[.val (.int sel), .val (.long est), .second, .val (.long lo1), .second, .val (.long up1), .second, .val (.long lo2), .second, .val (.long up2), .second, .val (.int (1 : Int32)), .val (.int (1 : Int32)), .val (.int (3 : Int32)), .val (.int (1 : Int32)), .unset, .unset, .unset, .unset]) at_35 rfl rfl ?_
        refine OwnW.iload (pc' := 39) at_37 rfl rfl ?_
        refine OwnW.iconst (pc' := 40) (v := (1 : Int32)) at_39 rfl rfl ?_
        refine OwnW.ishr (pc' := 41) at_40 rfl ?_
        show GoB0 l Z n0 OwnW.One1 h0 0 0 41 #[.val (.int sel), .val (.long est), .second, .val (.long lo1), .second, .val (.long up1), .second, .val (.long lo2), .second, .val (.long up2), .second, .val (.int (1 : Int32)), .val (.int (1 : Int32)), .val (.int (3 : Int32)), .val (.int (1 : Int32)), .unset, .unset, .unset, .unset] [(.int (0 : Int32))]
        refine OwnW.istore (pc' := 43) (L' := #[.val (.int sel), .val (.long est), .second, .val (.long lo1), .second, .val (.long up1), .second, .val (.long lo2), .second, .val (.long up2), .second, .val (.int (1 : Int32)), .val (.int (1 : Int32)), .val (.int (3 : Int32)), .val (.int (1 : Int32)), .val (.int (0 : Int32)), .unset, .unset, .unset]) at_41 rfl rfl ?_
        refine OwnW.iload (pc' := 45) at_43 rfl rfl ?_
        refine OwnW.iconst (pc' := 46) (v := (1 : Int32)) at_45 rfl rfl ?_
        refine OwnW.iand (pc' := 47) at_46 rfl ?_
        show GoB0 l Z n0 OwnW.One1 h0 0 0 47 #[.val (.int sel), .val (.long est), .second, .val (.long lo1), .second, .val (.long up1), .second, .val (.long lo2), .second, .val (.long up2), .second, .val (.int (1 : Int32)), .val (.int (1 : Int32)), .val (.int (3 : Int32)), .val (.int (1 : Int32)), .val (.int (0 : Int32)), .unset, .unset, .unset] [(.int (1 : Int32))]
        refine OwnW.istore (pc' := 49) (L' := #[.val (.int sel), .val (.long est), .second, .val (.long lo1), .second, .val (.long up1), .second, .val (.long lo2), .second, .val (.long up2), .second, .val (.int (1 : Int32)), .val (.int (1 : Int32)), .val (.int (3 : Int32)), .val (.int (1 : Int32)), .val (.int (0 : Int32)), .val (.int (1 : Int32)), .unset, .unset]) at_47 rfl rfl ?_
        refine OwnW.iloadN (pc' := 50) at_49 rfl rfl ?_
        refine OwnW.bipush (pc' := 52) (v := (16 : Int32)) at_50 rfl rfl ?_
        refine OwnW.iand (pc' := 53) at_52 rfl ?_
        suffices J53_61 : ∀ (sb : Int32), sb = (if (sel &&& (16 : Int32)) = (0 : Int32) then (0 : Int32) else (1 : Int32)) → GoB0 l Z n0 OwnW.One1 h0 0 0 61 #[.val (.int sel), .val (.long est), .second, .val (.long lo1), .second, .val (.long up1), .second, .val (.long lo2), .second, .val (.long up2), .second, .val (.int (1 : Int32)), .val (.int (1 : Int32)), .val (.int (3 : Int32)), .val (.int (1 : Int32)), .val (.int (0 : Int32)), .val (.int (1 : Int32)), .unset, .unset] [(.int sb)] by
          by_cases hc53 : (sel &&& (16 : Int32)) = (0 : Int32)
          ·
            refine OwnW.ifcY (pc' := 60) at_53 ((if0 _ _).trans (teq hc53).1) (by decide) (by decide) ?_
            refine OwnW.iconst (pc' := 61) (v := (0 : Int32)) at_60 rfl rfl ?_
            exact J53_61 _ (by first | simp only [if_pos hc53] | rfl)
          ·
            refine OwnW.ifcN (pc' := 56) at_53 ((if0 _ _).trans (feq hc53).1) rfl ?_
            refine OwnW.iconst (pc' := 57) (v := (1 : Int32)) at_56 rfl rfl ?_
            refine OwnW.goto (pc' := 61) at_57 (by decide) (by decide) ?_
            exact J53_61 _ (by first | simp only [if_neg hc53] | rfl)
        intro sb hsb
        refine OwnW.istore (pc' := 63) (L' := #[.val (.int sel), .val (.long est), .second, .val (.long lo1), .second, .val (.long up1), .second, .val (.long lo2), .second, .val (.long up2), .second, .val (.int (1 : Int32)), .val (.int (1 : Int32)), .val (.int (3 : Int32)), .val (.int (1 : Int32)), .val (.int (0 : Int32)), .val (.int (1 : Int32)), .val (.int sb), .unset]) at_61 rfl rfl ?_
        refine OwnW.newO (a0 := a0) (pc' := 66) (k' := 1) (n' := 3) at_63 (hw _ (List.mem_of_getElem? (i := 0) rfl)) (hw _ (List.mem_of_getElem? (i := 1) rfl)) (hw _ (List.mem_of_getElem? (i := 2) rfl)) rfl rfl (by decide) (by decide) rfl ?_
        intro h532 ad532 g532 E532 A532 D532
        have ge_ad532 : n0 ≤ ad532 := Nat.le_trans Z0 (Nat.le_of_eq g532.symm)
        have sz_ad532 : n0 ≤ h532.size := Nat.le_trans Z0 E532.1
        have F532_lower : Fld Z h532 ad532 "com/example/parley/parley/treesearch/ChildBounds" "lower" "[[J" .null := D532 (Or.inr (hw _ (List.mem_of_getElem? (i := 13) rfl))) (ty := (.array (.array .long))) (by decide)
        have F532_upper : Fld Z h532 ad532 "com/example/parley/parley/treesearch/ChildBounds" "upper" "[[J" .null := D532 (Or.inr (hw _ (List.mem_of_getElem? (i := 15) rfl))) (ty := (.array (.array .long))) (by decide)
        have F532_assignments : Fld Z h532 ad532 "com/example/parley/parley/treesearch/ChildBounds" "assignments" "[[Lcom/example/parley/parley/treesearch/SubtreeAssignment;" .null := D532 (Or.inr (hw _ (List.mem_of_getElem? (i := 20) rfl))) (ty := (.array (.array (.object "com/example/parley/parley/treesearch/SubtreeAssignment")))) (by decide)
        refine OwnW.dup (pc' := 67) at_66 rfl rfl ?_
        refine OwnW.iconst (pc' := 68) (v := (2 : Int32)) at_67 rfl rfl ?_
        refine OwnW.iconst (pc' := 69) (v := (2 : Int32)) at_68 rfl rfl ?_
        refine OwnW.callI (a0 := a0) (pc' := 72) (W := 1) (k' := 10) (n' := 21) (argsL := [(.int (2 : Int32)), (.int (2 : Int32))]) (rest := [(.ref ad532)]) at_69 rfl (hw _ (List.mem_of_getElem? (i := 3) rfl)) (hw _ (List.mem_of_getElem? (i := 4) rfl)) (hw _ (List.mem_of_getElem? (i := 2) rfl)) (hw _ (List.mem_of_getElem? (i := 5) rfl)) (by decide) (rm1 l Z a0 hw ad532 h532 n0 sz_ad532 ge_ad532 A532 F532_lower F532_upper F532_assignments) (by decide) (by decide) rfl rfl (by decide) (by decide) rfl pd_28II29V rfl rfl rfl (Nat.le_of_ble_eq_true rfl) rfl ?_
        rintro h533 v533 ⟨ad533_0, ad533_1, ad533_2, kc533_0, kc533_1, kc533_2, kc533_3, kc533_4, kc533_5, rfl, K533, gl533_0, gl533_1, gl533_2, nn533_0_1, nn533_0_2, nn533_1_2, pp533_0, pp533_1, Fc533_0, Fc533_1, Fc533_2, Fc533_3, Fc533_4, Fc533_5, Fc533_6, Fc533_7, Fc533_8, Fc533_9, Fc533_10, Fc533_11, Fc533_12, Fc533_13⟩
        have lt_ad532_ad533_0 : @LT.lt Nat _ ad532 ad533_0 := Nat.lt_of_lt_of_le (A532).lt gl533_0
        have ge_ad533_0 : n0 ≤ ad533_0 := Nat.le_trans sz_ad532 gl533_0
        have lt_ad532_ad533_1 : @LT.lt Nat _ ad532 ad533_1 := Nat.lt_of_lt_of_le (A532).lt gl533_1
        have ge_ad533_1 : n0 ≤ ad533_1 := Nat.le_trans sz_ad532 gl533_1
        have lt_ad532_ad533_2 : @LT.lt Nat _ ad532 ad533_2 := Nat.lt_of_lt_of_le (A532).lt gl533_2
        have ge_ad533_2 : n0 ≤ ad533_2 := Nat.le_trans sz_ad532 gl533_2
        have sz534 : n0 ≤ h533.size := Nat.le_trans sz_ad532 K533.1
        show GoB0 l Z n0 OwnW.One1 h533 10 21 72 #[.val (.int sel), .val (.long est), .second, .val (.long lo1), .second, .val (.long up1), .second, .val (.long lo2), .second, .val (.long up2), .second, .val (.int (1 : Int32)), .val (.int (1 : Int32)), .val (.int (3 : Int32)), .val (.int (1 : Int32)), .val (.int (0 : Int32)), .val (.int (1 : Int32)), .val (.int sb), .unset] [(.ref ad532)]
        refine OwnW.astore (pc' := 74) (L' := #[.val (.int sel), .val (.long est), .second, .val (.long lo1), .second, .val (.long up1), .second, .val (.long lo2), .second, .val (.long up2), .second, .val (.int (1 : Int32)), .val (.int (1 : Int32)), .val (.int (3 : Int32)), .val (.int (1 : Int32)), .val (.int (0 : Int32)), .val (.int (1 : Int32)), .val (.int sb), .val (.ref ad532)]) at_72 (rfl) rfl rfl ?_
        refine OwnW.iload (pc' := 76) at_74 rfl rfl ?_
        by_cases hc76 : sb = (0 : Int32)
        ·
          refine OwnW.ifcY (pc' := 92) at_76 ((if0 _ _).trans (teq hc76).1) (by decide) (by decide) ?_
          refine OwnW.aload (pc' := 94) at_92 rfl (rfl) rfl ?_
          refine OwnW.iload (pc' := 96) at_94 rfl rfl ?_
          refine OwnW.iload (pc' := 98) at_96 rfl rfl ?_
          refine OwnW.lload (pc' := 100) at_98 rfl rfl ?_
          refine OwnW.lload (pc' := 102) at_100 rfl rfl ?_
          refine OwnW.aconstNull (pc' := 103) at_102 rfl ?_
          refine OwnW.callV (a0 := a0) (pc' := 106) (W := 0) (k' := 10) (n' := 21) (argsL := [(.int (0 : Int32)), (.int (1 : Int32)), (.long lo2), (.long up2), .null]) (rest := []) at_103 (hw _ (List.mem_of_getElem? (i := 26) rfl)) (hw _ (List.mem_of_getElem? (i := 27) rfl)) (hw _ (List.mem_of_getElem? (i := 29) rfl)) (hw _ (List.mem_of_getElem? (i := 28) rfl)) (hw _ (List.mem_of_getElem? (i := 2) rfl)) (hw _ (List.mem_of_getElem? (i := 30) rfl)) (by decide) Fc533_0 (rm4_01 l Z a0 hw ad532 lo2 up2 ad533_0 (ad533_0 + 1) (ad533_0 + 2) kc533_0 kc533_1 (0 : Int64) (0 : Int64) ad533_1 (ad533_1 + 1) (ad533_1 + 2) kc533_2 kc533_3 (9223372036854775807 : Int64) (9223372036854775807 : Int64) ad533_2 (ad533_2 + 1) (ad533_2 + 2) kc533_4 kc533_5 h533 n0 sz534 (Nat.le_trans ge_ad533_0 (Nat.le_add_right _ _)) (Nat.le_trans ge_ad533_1 (Nat.le_add_right _ _)) (Nat.le_trans ge_ad533_2 (Nat.le_add_right _ _)) Fc533_0 Fc533_1 Fc533_4 Fc533_5 Fc533_2 Fc533_7 Fc533_8 Fc533_3 Fc533_10 Fc533_11 (by omega : @Ne Nat (ad533_0 + 1) ad533_1) (by omega : @Ne Nat (ad533_0 + 1) (ad533_1 + 1)) (by omega : @Ne Nat (ad533_0 + 1) ad533_2) (by omega : @Ne Nat (ad533_0 + 1) (ad533_2 + 1)) (by omega : @Ne Nat (ad533_0 + 1) ad532) (by omega : @Ne Nat (ad533_0 + 1) ad533_0) (by omega : @Ne Nat (ad533_1 + 1) ad533_2) (by omega : @Ne Nat (ad533_1 + 1) (ad533_2 + 1)) (by omega : @Ne Nat (ad533_1 + 1) ad532) (by omega : @Ne Nat (ad533_1 + 1) ad533_0) (by omega : @Ne Nat (ad533_1 + 1) ad533_1) (by omega : @Ne Nat (ad533_2 + 1) ad532) (by omega : @Ne Nat (ad533_2 + 1) ad533_0) (by omega : @Ne Nat (ad533_2 + 1) ad533_1) (by omega : @Ne Nat (ad533_2 + 1) ad533_2)) (by decide) (by decide) rfl rfl (by decide) (by decide) rfl pd_28IIJJLcom2fexample2fparley2fparley2ftreesearch2fSubtreeAssignment3b29V rfl rfl rfl (Nat.le_of_ble_eq_true rfl) rfl ?_
          rintro h535 v535 ⟨rfl, K535, Fc535_0, Fc535_1, Fc535_2⟩
          have sz536 : n0 ≤ h535.size := Nat.le_trans sz534 K535.1
          show GoB0 l Z n0 OwnW.One1 h535 10 21 106 #[.val (.int sel), .val (.long est), .second, .val (.long lo1), .second, .val (.long up1), .second, .val (.long lo2), .second, .val (.long up2), .second, .val (.int (1 : Int32)), .val (.int (1 : Int32)), .val (.int (3 : Int32)), .val (.int (1 : Int32)), .val (.int (0 : Int32)), .val (.int (1 : Int32)), .val (.int sb), .val (.ref ad532)] []
          refine OwnW.aload (pc' := 108) at_106 rfl (rfl) rfl ?_
          refine OwnW.iload (pc' := 110) at_108 rfl rfl ?_
          refine OwnW.iload (pc' := 112) at_110 rfl rfl ?_
          refine OwnW.lloadN (pc' := 113) at_112 rfl rfl ?_
          have F537 := (Fc533_0.keep K535)
          have F538 := (Fc533_1.keep K535 (ninS (by omega : @Ne Nat ad532 (ad533_0 + 1)) (ninS (by omega : @Ne Nat ad532 (ad533_1 + 1)) (ninS (by omega : @Ne Nat ad532 (ad533_2 + 1)) nin0))))
          have F539 := (Fc533_4.keep K535 (ninS (by omega : @Ne Nat ad533_0 (ad533_0 + 1)) (ninS (by omega : @Ne Nat ad533_0 (ad533_1 + 1)) (ninS (by omega : @Ne Nat ad533_0 (ad533_2 + 1)) nin0))))
          have F540 := (Fc533_6.keep K535 (ninS (by omega : @Ne Nat (ad533_0 + 2) (ad533_0 + 1)) (ninS (by omega : @Ne Nat (ad533_0 + 2) (ad533_1 + 1)) (ninS (by omega : @Ne Nat (ad533_0 + 2) (ad533_2 + 1)) nin0))))
          have F541 := (Fc533_2.keep K535 (ninS (by omega : @Ne Nat ad532 (ad533_0 + 1)) (ninS (by omega : @Ne Nat ad532 (ad533_1 + 1)) (ninS (by omega : @Ne Nat ad532 (ad533_2 + 1)) nin0))))
          have F542 := (Fc533_7.keep K535 (ninS (by omega : @Ne Nat ad533_1 (ad533_0 + 1)) (ninS (by omega : @Ne Nat ad533_1 (ad533_1 + 1)) (ninS (by omega : @Ne Nat ad533_1 (ad533_2 + 1)) nin0))))
          have F543 := (Fc533_9.keep K535 (ninS (by omega : @Ne Nat (ad533_1 + 2) (ad533_0 + 1)) (ninS (by omega : @Ne Nat (ad533_1 + 2) (ad533_1 + 1)) (ninS (by omega : @Ne Nat (ad533_1 + 2) (ad533_2 + 1)) nin0))))
          have F544 := (Fc533_3.keep K535 (ninS (by omega : @Ne Nat ad532 (ad533_0 + 1)) (ninS (by omega : @Ne Nat ad532 (ad533_1 + 1)) (ninS (by omega : @Ne Nat ad532 (ad533_2 + 1)) nin0))))
          have F545 := (Fc533_10.keep K535 (ninS (by omega : @Ne Nat ad533_2 (ad533_0 + 1)) (ninS (by omega : @Ne Nat ad533_2 (ad533_1 + 1)) (ninS (by omega : @Ne Nat ad533_2 (ad533_2 + 1)) nin0))))
          have F546 := (Fc533_12.keep K535 (ninS (by omega : @Ne Nat (ad533_2 + 2) (ad533_0 + 1)) (ninS (by omega : @Ne Nat (ad533_2 + 2) (ad533_1 + 1)) (ninS (by omega : @Ne Nat (ad533_2 + 2) (ad533_2 + 1)) nin0))))
          refine OwnW.callV (a0 := a0) (pc' := 116) (W := 0) (k' := 10) (n' := 21) (argsL := [(.int (1 : Int32)), (.int (1 : Int32)), (.long est)]) (rest := []) at_113 (hw _ (List.mem_of_getElem? (i := 31) rfl)) (hw _ (List.mem_of_getElem? (i := 32) rfl)) (hw _ (List.mem_of_getElem? (i := 34) rfl)) (hw _ (List.mem_of_getElem? (i := 33) rfl)) (hw _ (List.mem_of_getElem? (i := 2) rfl)) (hw _ (List.mem_of_getElem? (i := 35) rfl)) (by decide) F537 (rm5_11 l Z a0 hw ad532 est ad533_0 (ad533_0 + 1) (ad533_0 + 2) kc533_0 kc533_1 (0 : Int64) (0 : Int64) ad533_1 (ad533_1 + 1) (ad533_1 + 2) kc533_2 kc533_3 (9223372036854775807 : Int64) (9223372036854775807 : Int64) ad533_2 (ad533_2 + 1) (ad533_2 + 2) kc533_4 kc533_5 h535 n0 sz536 (Nat.le_trans ge_ad533_0 (Nat.le_add_right _ _)) (Nat.le_trans ge_ad533_1 (Nat.le_add_right _ _)) (Nat.le_trans ge_ad533_2 (Nat.le_add_right _ _)) F537 F538 F539 F540 F541 F542 F543 F544 F545 F546 (by omega : @Ne Nat (ad533_0 + 2) ad533_1) (by omega : @Ne Nat (ad533_0 + 2) (ad533_1 + 2)) (by omega : @Ne Nat (ad533_0 + 2) ad533_2) (by omega : @Ne Nat (ad533_0 + 2) (ad533_2 + 2)) (by omega : @Ne Nat (ad533_0 + 2) ad532) (by omega : @Ne Nat (ad533_0 + 2) ad533_0) (by omega : @Ne Nat (ad533_1 + 2) ad533_2) (by omega : @Ne Nat (ad533_1 + 2) (ad533_2 + 2)) (by omega : @Ne Nat (ad533_1 + 2) ad532) (by omega : @Ne Nat (ad533_1 + 2) ad533_0) (by omega : @Ne Nat (ad533_1 + 2) ad533_1) (by omega : @Ne Nat (ad533_2 + 2) ad532) (by omega : @Ne Nat (ad533_2 + 2) ad533_0) (by omega : @Ne Nat (ad533_2 + 2) ad533_1) (by omega : @Ne Nat (ad533_2 + 2) ad533_2)) (by decide) (by decide) rfl rfl (by decide) (by decide) rfl pd_28IIJ29V rfl rfl rfl (Nat.le_of_ble_eq_true rfl) rfl ?_
          rintro h547 v547 ⟨rfl, K547, Fc547_0, Fc547_1, Fc547_2⟩
          have sz548 : n0 ≤ h547.size := Nat.le_trans sz536 K547.1
          show GoB0 l Z n0 OwnW.One1 h547 10 21 116 #[.val (.int sel), .val (.long est), .second, .val (.long lo1), .second, .val (.long up1), .second, .val (.long lo2), .second, .val (.long up2), .second, .val (.int (1 : Int32)), .val (.int (1 : Int32)), .val (.int (3 : Int32)), .val (.int (1 : Int32)), .val (.int (0 : Int32)), .val (.int (1 : Int32)), .val (.int sb), .val (.ref ad532)] []
          refine OwnW.aload (pc' := 118) at_116 rfl (rfl) rfl ?_
          refine OwnW.iload (pc' := 120) at_118 rfl rfl ?_
          refine OwnW.iload (pc' := 122) at_120 rfl rfl ?_
          have F549 := (F538.keep K547 (ninS (by omega : @Ne Nat ad532 (ad533_0 + 2)) (ninS (by omega : @Ne Nat ad532 (ad533_1 + 2)) (ninS (by omega : @Ne Nat ad532 (ad533_2 + 2)) nin0))))
          have F550 := (F539.keep K547 (ninS (by omega : @Ne Nat ad533_0 (ad533_0 + 2)) (ninS (by omega : @Ne Nat ad533_0 (ad533_1 + 2)) (ninS (by omega : @Ne Nat ad533_0 (ad533_2 + 2)) nin0))))
          have F551 := (F537.keep K547)
          refine OwnW.callV0 (a0 := a0) (pc' := 125) (W := 0) (k' := 10) (n' := 21) (argsL := [(.int (1 : Int32)), (.int (1 : Int32))]) (rest := []) (St' := [(.long (f6_11 ad532 ad533_0 (ad533_0 + 1) (ad533_0 + 2) kc533_0 kc533_1 (0 : Int64) est))]) at_122 (hw _ (List.mem_of_getElem? (i := 36) rfl)) (hw _ (List.mem_of_getElem? (i := 37) rfl)) (hw _ (List.mem_of_getElem? (i := 39) rfl)) (hw _ (List.mem_of_getElem? (i := 38) rfl)) (hw _ (List.mem_of_getElem? (i := 2) rfl)) (hw _ (List.mem_of_getElem? (i := 40) rfl)) (by decide) F551 (rm6_11 l Z a0 hw ad532 ad533_0 (ad533_0 + 1) (ad533_0 + 2) kc533_0 kc533_1 (0 : Int64) est h547 n0 F549 F550 Fc547_0) (by decide) (by decide) rfl rfl (by decide) (by decide) rfl pd_28II29J rfl rfl rfl (Nat.le_of_ble_eq_true rfl) rfl rfl ?_
          refine OwnW.lloadN (pc' := 126) at_125 rfl rfl ?_
          refine OwnW.lcmp (pc' := 127) at_126 rfl ?_
          refine OwnW.ifcN (pc' := 130) at_127 ((if0 _ _).trans (teq ((lw_eq _ _).mpr rfl)).2) rfl ?_
          refine OwnW.aload (pc' := 132) at_130 rfl (rfl) rfl ?_
          refine OwnW.iload (pc' := 134) at_132 rfl rfl ?_
          refine OwnW.iload (pc' := 136) at_134 rfl rfl ?_
          have F552 := (F541.keep K547 (ninS (by omega : @Ne Nat ad532 (ad533_0 + 2)) (ninS (by omega : @Ne Nat ad532 (ad533_1 + 2)) (ninS (by omega : @Ne Nat ad532 (ad533_2 + 2)) nin0))))
          have F553 := (F542.keep K547 (ninS (by omega : @Ne Nat ad533_1 (ad533_0 + 2)) (ninS (by omega : @Ne Nat ad533_1 (ad533_1 + 2)) (ninS (by omega : @Ne Nat ad533_1 (ad533_2 + 2)) nin0))))
          refine OwnW.callV0 (a0 := a0) (pc' := 139) (W := 0) (k' := 10) (n' := 21) (argsL := [(.int (1 : Int32)), (.int (1 : Int32))]) (rest := []) (St' := [(.long (f7_11 ad532 ad533_1 (ad533_1 + 1) (ad533_1 + 2) kc533_2 kc533_3 (9223372036854775807 : Int64) (9223372036854775807 : Int64)))]) at_136 (hw _ (List.mem_of_getElem? (i := 41) rfl)) (hw _ (List.mem_of_getElem? (i := 42) rfl)) (hw _ (List.mem_of_getElem? (i := 44) rfl)) (hw _ (List.mem_of_getElem? (i := 43) rfl)) (hw _ (List.mem_of_getElem? (i := 2) rfl)) (hw _ (List.mem_of_getElem? (i := 45) rfl)) (by decide) F551 (rm7_11 l Z a0 hw ad532 ad533_1 (ad533_1 + 1) (ad533_1 + 2) kc533_2 kc533_3 (9223372036854775807 : Int64) (9223372036854775807 : Int64) h547 n0 F552 F553 Fc547_1) (by decide) (by decide) rfl rfl (by decide) (by decide) rfl pd_28II29J rfl rfl rfl (Nat.le_of_ble_eq_true rfl) rfl rfl ?_
          refine OwnW.ldc2J (a0 := a0) (pc' := 142) (v := (9223372036854775807 : Int64)) at_139 (hw _ (List.mem_of_getElem? (i := 46) rfl)) rfl ?_
          refine OwnW.lcmp (pc' := 143) at_142 rfl ?_
          refine OwnW.ifcN (pc' := 146) at_143 ((if0 _ _).trans (teq ((lw_eq _ _).mpr rfl)).2) rfl ?_
          refine OwnW.aload (pc' := 148) at_146 rfl (rfl) rfl ?_
          refine OwnW.iload (pc' := 150) at_148 rfl rfl ?_
          refine OwnW.iload (pc' := 152) at_150 rfl rfl ?_
          have F554 := (Fc535_0.keep K547 (ninS (by omega : @Ne Nat (ad533_0 + 1) (ad533_0 + 2)) (ninS (by omega : @Ne Nat (ad533_0 + 1) (ad533_1 + 2)) (ninS (by omega : @Ne Nat (ad533_0 + 1) (ad533_2 + 2)) nin0))))
          refine OwnW.callV0 (a0 := a0) (pc' := 155) (W := 0) (k' := 10) (n' := 21) (argsL := [(.int (0 : Int32)), (.int (1 : Int32))]) (rest := []) (St' := [(.long (f6_01 ad532 ad533_0 (ad533_0 + 1) (ad533_0 + 2) kc533_0 kc533_1 (0 : Int64) lo2))]) at_152 (hw _ (List.mem_of_getElem? (i := 36) rfl)) (hw _ (List.mem_of_getElem? (i := 37) rfl)) (hw _ (List.mem_of_getElem? (i := 39) rfl)) (hw _ (List.mem_of_getElem? (i := 38) rfl)) (hw _ (List.mem_of_getElem? (i := 2) rfl)) (hw _ (List.mem_of_getElem? (i := 40) rfl)) (by decide) F551 (rm6_01 l Z a0 hw ad532 ad533_0 (ad533_0 + 1) (ad533_0 + 2) kc533_0 kc533_1 (0 : Int64) lo2 h547 n0 F549 F550 F554) (by decide) (by decide) rfl rfl (by decide) (by decide) rfl pd_28II29J rfl rfl rfl (Nat.le_of_ble_eq_true rfl) rfl rfl ?_
          refine OwnW.lload (pc' := 157) at_155 rfl rfl ?_
          refine OwnW.lcmp (pc' := 158) at_157 rfl ?_
          refine OwnW.ifcN (pc' := 161) at_158 ((if0 _ _).trans (teq ((lw_eq _ _).mpr rfl)).2) rfl ?_
          refine OwnW.aload (pc' := 163) at_161 rfl (rfl) rfl ?_
          refine OwnW.iload (pc' := 165) at_163 rfl rfl ?_
          refine OwnW.iload (pc' := 167) at_165 rfl rfl ?_
          have F555 := (Fc535_1.keep K547 (ninS (by omega : @Ne Nat (ad533_1 + 1) (ad533_0 + 2)) (ninS (by omega : @Ne Nat (ad533_1 + 1) (ad533_1 + 2)) (ninS (by omega : @Ne Nat (ad533_1 + 1) (ad533_2 + 2)) nin0))))
          refine OwnW.callV0 (a0 := a0) (pc' := 170) (W := 0) (k' := 10) (n' := 21) (argsL := [(.int (0 : Int32)), (.int (1 : Int32))]) (rest := []) (St' := [(.long (f7_01 ad532 ad533_1 (ad533_1 + 1) (ad533_1 + 2) kc533_2 kc533_3 (9223372036854775807 : Int64) up2))]) at_167 (hw _ (List.mem_of_getElem? (i := 41) rfl)) (hw _ (List.mem_of_getElem? (i := 42) rfl)) (hw _ (List.mem_of_getElem? (i := 44) rfl)) (hw _ (List.mem_of_getElem? (i := 43) rfl)) (hw _ (List.mem_of_getElem? (i := 2) rfl)) (hw _ (List.mem_of_getElem? (i := 45) rfl)) (by decide) F551 (rm7_01 l Z a0 hw ad532 ad533_1 (ad533_1 + 1) (ad533_1 + 2) kc533_2 kc533_3 (9223372036854775807 : Int64) up2 h547 n0 F552 F553 F555) (by decide) (by decide) rfl rfl (by decide) (by decide) rfl pd_28II29J rfl rfl rfl (Nat.le_of_ble_eq_true rfl) rfl rfl ?_
          refine OwnW.lload (pc' := 172) at_170 rfl rfl ?_
          refine OwnW.lcmp (pc' := 173) at_172 rfl ?_
          refine OwnW.ifcN (pc' := 176) at_173 ((if0 _ _).trans (teq ((lw_eq _ _).mpr rfl)).2) rfl ?_
          refine OwnW.iconst (pc' := 177) (v := (1 : Int32)) at_176 rfl rfl ?_
          refine OwnW.goto (pc' := 181) at_177 (by decide) (by decide) ?_
          exact OwnW.retN (t := .boolean) at_181 rfl (by simp) rfl (by decide) (by decide) (rfl)
        ·
          refine OwnW.ifcN (pc' := 79) at_76 ((if0 _ _).trans (feq hc76).1) rfl ?_
          refine OwnW.aload (pc' := 81) at_79 rfl (rfl) rfl ?_
          refine OwnW.iload (pc' := 83) at_81 rfl rfl ?_
          refine OwnW.iload (pc' := 85) at_83 rfl rfl ?_
          refine OwnW.lloadN (pc' := 86) at_85 rfl rfl ?_
          refine OwnW.lload (pc' := 88) at_86 rfl rfl ?_
          refine OwnW.aconstNull (pc' := 89) at_88 rfl ?_
          refine OwnW.callV (a0 := a0) (pc' := 92) (W := 0) (k' := 10) (n' := 21) (argsL := [(.int (1 : Int32)), (.int (1 : Int32)), (.long lo1), (.long up1), .null]) (rest := []) at_89 (hw _ (List.mem_of_getElem? (i := 26) rfl)) (hw _ (List.mem_of_getElem? (i := 27) rfl)) (hw _ (List.mem_of_getElem? (i := 29) rfl)) (hw _ (List.mem_of_getElem? (i := 28) rfl)) (hw _ (List.mem_of_getElem? (i := 2) rfl)) (hw _ (List.mem_of_getElem? (i := 30) rfl)) (by decide) Fc533_0 (rm4_11 l Z a0 hw ad532 lo1 up1 ad533_0 (ad533_0 + 1) (ad533_0 + 2) kc533_0 kc533_1 (0 : Int64) (0 : Int64) ad533_1 (ad533_1 + 1) (ad533_1 + 2) kc533_2 kc533_3 (9223372036854775807 : Int64) (9223372036854775807 : Int64) ad533_2 (ad533_2 + 1) (ad533_2 + 2) kc533_4 kc533_5 h533 n0 sz534 (Nat.le_trans ge_ad533_0 (Nat.le_add_right _ _)) (Nat.le_trans ge_ad533_1 (Nat.le_add_right _ _)) (Nat.le_trans ge_ad533_2 (Nat.le_add_right _ _)) Fc533_0 Fc533_1 Fc533_4 Fc533_6 Fc533_2 Fc533_7 Fc533_9 Fc533_3 Fc533_10 Fc533_12 (by omega : @Ne Nat (ad533_0 + 2) ad533_1) (by omega : @Ne Nat (ad533_0 + 2) (ad533_1 + 2)) (by omega : @Ne Nat (ad533_0 + 2) ad533_2) (by omega : @Ne Nat (ad533_0 + 2) (ad533_2 + 2)) (by omega : @Ne Nat (ad533_0 + 2) ad532) (by omega : @Ne Nat (ad533_0 + 2) ad533_0) (by omega : @Ne Nat (ad533_1 + 2) ad533_2) (by omega : @Ne Nat (ad533_1 + 2) (ad533_2 + 2)) (by omega : @Ne Nat (ad533_1 + 2) ad532) (by omega : @Ne Nat (ad533_1 + 2) ad533_0) (by omega : @Ne Nat (ad533_1 + 2) ad533_1) (by omega : @Ne Nat (ad533_2 + 2) ad532) (by omega : @Ne Nat (ad533_2 + 2) ad533_0) (by omega : @Ne Nat (ad533_2 + 2) ad533_1) (by omega : @Ne Nat (ad533_2 + 2) ad533_2)) (by decide) (by decide) rfl rfl (by decide) (by decide) rfl pd_28IIJJLcom2fexample2fparley2fparley2ftreesearch2fSubtreeAssignment3b29V rfl rfl rfl (Nat.le_of_ble_eq_true rfl) rfl ?_
          rintro h556 v556 ⟨rfl, K556, Fc556_0, Fc556_1, Fc556_2⟩
          have sz557 : n0 ≤ h556.size := Nat.le_trans sz534 K556.1
          show GoB0 l Z n0 OwnW.One1 h556 10 21 92 #[.val (.int sel), .val (.long est), .second, .val (.long lo1), .second, .val (.long up1), .second, .val (.long lo2), .second, .val (.long up2), .second, .val (.int (1 : Int32)), .val (.int (1 : Int32)), .val (.int (3 : Int32)), .val (.int (1 : Int32)), .val (.int (0 : Int32)), .val (.int (1 : Int32)), .val (.int sb), .val (.ref ad532)] []
          refine OwnW.aload (pc' := 94) at_92 rfl (rfl) rfl ?_
          refine OwnW.iload (pc' := 96) at_94 rfl rfl ?_
          refine OwnW.iload (pc' := 98) at_96 rfl rfl ?_
          refine OwnW.lload (pc' := 100) at_98 rfl rfl ?_
          refine OwnW.lload (pc' := 102) at_100 rfl rfl ?_
          refine OwnW.aconstNull (pc' := 103) at_102 rfl ?_
          have F558 := (Fc533_0.keep K556)
          have F559 := (Fc533_1.keep K556 (ninS (by omega : @Ne Nat ad532 (ad533_0 + 2)) (ninS (by omega : @Ne Nat ad532 (ad533_1 + 2)) (ninS (by omega : @Ne Nat ad532 (ad533_2 + 2)) nin0))))
          have F560 := (Fc533_4.keep K556 (ninS (by omega : @Ne Nat ad533_0 (ad533_0 + 2)) (ninS (by omega : @Ne Nat ad533_0 (ad533_1 + 2)) (ninS (by omega : @Ne Nat ad533_0 (ad533_2 + 2)) nin0))))
          have F561 := (Fc533_5.keep K556 (ninS (by omega : @Ne Nat (ad533_0 + 1) (ad533_0 + 2)) (ninS (by omega : @Ne Nat (ad533_0 + 1) (ad533_1 + 2)) (ninS (by omega : @Ne Nat (ad533_0 + 1) (ad533_2 + 2)) nin0))))
          have F562 := (Fc533_2.keep K556 (ninS (by omega : @Ne Nat ad532 (ad533_0 + 2)) (ninS (by omega : @Ne Nat ad532 (ad533_1 + 2)) (ninS (by omega : @Ne Nat ad532 (ad533_2 + 2)) nin0))))
          have F563 := (Fc533_7.keep K556 (ninS (by omega : @Ne Nat ad533_1 (ad533_0 + 2)) (ninS (by omega : @Ne Nat ad533_1 (ad533_1 + 2)) (ninS (by omega : @Ne Nat ad533_1 (ad533_2 + 2)) nin0))))
          have F564 := (Fc533_8.keep K556 (ninS (by omega : @Ne Nat (ad533_1 + 1) (ad533_0 + 2)) (ninS (by omega : @Ne Nat (ad533_1 + 1) (ad533_1 + 2)) (ninS (by omega : @Ne Nat (ad533_1 + 1) (ad533_2 + 2)) nin0))))
          have F565 := (Fc533_3.keep K556 (ninS (by omega : @Ne Nat ad532 (ad533_0 + 2)) (ninS (by omega : @Ne Nat ad532 (ad533_1 + 2)) (ninS (by omega : @Ne Nat ad532 (ad533_2 + 2)) nin0))))
          have F566 := (Fc533_10.keep K556 (ninS (by omega : @Ne Nat ad533_2 (ad533_0 + 2)) (ninS (by omega : @Ne Nat ad533_2 (ad533_1 + 2)) (ninS (by omega : @Ne Nat ad533_2 (ad533_2 + 2)) nin0))))
          have F567 := (Fc533_11.keep K556 (ninS (by omega : @Ne Nat (ad533_2 + 1) (ad533_0 + 2)) (ninS (by omega : @Ne Nat (ad533_2 + 1) (ad533_1 + 2)) (ninS (by omega : @Ne Nat (ad533_2 + 1) (ad533_2 + 2)) nin0))))
          refine OwnW.callV (a0 := a0) (pc' := 106) (W := 0) (k' := 10) (n' := 21) (argsL := [(.int (0 : Int32)), (.int (1 : Int32)), (.long lo2), (.long up2), .null]) (rest := []) at_103 (hw _ (List.mem_of_getElem? (i := 26) rfl)) (hw _ (List.mem_of_getElem? (i := 27) rfl)) (hw _ (List.mem_of_getElem? (i := 29) rfl)) (hw _ (List.mem_of_getElem? (i := 28) rfl)) (hw _ (List.mem_of_getElem? (i := 2) rfl)) (hw _ (List.mem_of_getElem? (i := 30) rfl)) (by decide) F558 (rm4_01 l Z a0 hw ad532 lo2 up2 ad533_0 (ad533_0 + 1) (ad533_0 + 2) kc533_0 kc533_1 (0 : Int64) (0 : Int64) ad533_1 (ad533_1 + 1) (ad533_1 + 2) kc533_2 kc533_3 (9223372036854775807 : Int64) (9223372036854775807 : Int64) ad533_2 (ad533_2 + 1) (ad533_2 + 2) kc533_4 kc533_5 h556 n0 sz557 (Nat.le_trans ge_ad533_0 (Nat.le_add_right _ _)) (Nat.le_trans ge_ad533_1 (Nat.le_add_right _ _)) (Nat.le_trans ge_ad533_2 (Nat.le_add_right _ _)) F558 F559 F560 F561 F562 F563 F564 F565 F566 F567 (by omega : @Ne Nat (ad533_0 + 1) ad533_1) (by omega : @Ne Nat (ad533_0 + 1) (ad533_1 + 1)) (by omega : @Ne Nat (ad533_0 + 1) ad533_2) (by omega : @Ne Nat (ad533_0 + 1) (ad533_2 + 1)) (by omega : @Ne Nat (ad533_0 + 1) ad532) (by omega : @Ne Nat (ad533_0 + 1) ad533_0) (by omega : @Ne Nat (ad533_1 + 1) ad533_2) (by omega : @Ne Nat (ad533_1 + 1) (ad533_2 + 1)) (by omega : @Ne Nat (ad533_1 + 1) ad532) (by omega : @Ne Nat (ad533_1 + 1) ad533_0) (by omega : @Ne Nat (ad533_1 + 1) ad533_1) (by omega : @Ne Nat (ad533_2 + 1) ad532) (by omega : @Ne Nat (ad533_2 + 1) ad533_0) (by omega : @Ne Nat (ad533_2 + 1) ad533_1) (by omega : @Ne Nat (ad533_2 + 1) ad533_2)) (by decide) (by decide) rfl rfl (by decide) (by decide) rfl pd_28IIJJLcom2fexample2fparley2fparley2ftreesearch2fSubtreeAssignment3b29V rfl rfl rfl (Nat.le_of_ble_eq_true rfl) rfl ?_
          rintro h568 v568 ⟨rfl, K568, Fc568_0, Fc568_1, Fc568_2⟩
          have sz569 : n0 ≤ h568.size := Nat.le_trans sz557 K568.1
          show GoB0 l Z n0 OwnW.One1 h568 10 21 106 #[.val (.int sel), .val (.long est), .second, .val (.long lo1), .second, .val (.long up1), .second, .val (.long lo2), .second, .val (.long up2), .second, .val (.int (1 : Int32)), .val (.int (1 : Int32)), .val (.int (3 : Int32)), .val (.int (1 : Int32)), .val (.int (0 : Int32)), .val (.int (1 : Int32)), .val (.int sb), .val (.ref ad532)] []
          refine OwnW.aload (pc' := 108) at_106 rfl (rfl) rfl ?_
          refine OwnW.iload (pc' := 110) at_108 rfl rfl ?_
          refine OwnW.iload (pc' := 112) at_110 rfl rfl ?_
          refine OwnW.lloadN (pc' := 113) at_112 rfl rfl ?_
          have F570 := (F558.keep K568)
          have F571 := (F559.keep K568 (ninS (by omega : @Ne Nat ad532 (ad533_0 + 1)) (ninS (by omega : @Ne Nat ad532 (ad533_1 + 1)) (ninS (by omega : @Ne Nat ad532 (ad533_2 + 1)) nin0))))
          have F572 := (F560.keep K568 (ninS (by omega : @Ne Nat ad533_0 (ad533_0 + 1)) (ninS (by omega : @Ne Nat ad533_0 (ad533_1 + 1)) (ninS (by omega : @Ne Nat ad533_0 (ad533_2 + 1)) nin0))))
          have F573 := (Fc556_0.keep K568 (ninS (by omega : @Ne Nat (ad533_0 + 2) (ad533_0 + 1)) (ninS (by omega : @Ne Nat (ad533_0 + 2) (ad533_1 + 1)) (ninS (by omega : @Ne Nat (ad533_0 + 2) (ad533_2 + 1)) nin0))))
          have F574 := (F562.keep K568 (ninS (by omega : @Ne Nat ad532 (ad533_0 + 1)) (ninS (by omega : @Ne Nat ad532 (ad533_1 + 1)) (ninS (by omega : @Ne Nat ad532 (ad533_2 + 1)) nin0))))
          have F575 := (F563.keep K568 (ninS (by omega : @Ne Nat ad533_1 (ad533_0 + 1)) (ninS (by omega : @Ne Nat ad533_1 (ad533_1 + 1)) (ninS (by omega : @Ne Nat ad533_1 (ad533_2 + 1)) nin0))))
          have F576 := (Fc556_1.keep K568 (ninS (by omega : @Ne Nat (ad533_1 + 2) (ad533_0 + 1)) (ninS (by omega : @Ne Nat (ad533_1 + 2) (ad533_1 + 1)) (ninS (by omega : @Ne Nat (ad533_1 + 2) (ad533_2 + 1)) nin0))))
          have F577 := (F565.keep K568 (ninS (by omega : @Ne Nat ad532 (ad533_0 + 1)) (ninS (by omega : @Ne Nat ad532 (ad533_1 + 1)) (ninS (by omega : @Ne Nat ad532 (ad533_2 + 1)) nin0))))
          have F578 := (F566.keep K568 (ninS (by omega : @Ne Nat ad533_2 (ad533_0 + 1)) (ninS (by omega : @Ne Nat ad533_2 (ad533_1 + 1)) (ninS (by omega : @Ne Nat ad533_2 (ad533_2 + 1)) nin0))))
          have F579 := (Fc556_2.keep K568 (ninS (by omega : @Ne Nat (ad533_2 + 2) (ad533_0 + 1)) (ninS (by omega : @Ne Nat (ad533_2 + 2) (ad533_1 + 1)) (ninS (by omega : @Ne Nat (ad533_2 + 2) (ad533_2 + 1)) nin0))))
          refine OwnW.callV (a0 := a0) (pc' := 116) (W := 0) (k' := 10) (n' := 21) (argsL := [(.int (1 : Int32)), (.int (1 : Int32)), (.long est)]) (rest := []) at_113 (hw _ (List.mem_of_getElem? (i := 31) rfl)) (hw _ (List.mem_of_getElem? (i := 32) rfl)) (hw _ (List.mem_of_getElem? (i := 34) rfl)) (hw _ (List.mem_of_getElem? (i := 33) rfl)) (hw _ (List.mem_of_getElem? (i := 2) rfl)) (hw _ (List.mem_of_getElem? (i := 35) rfl)) (by decide) F570 (rm5_11 l Z a0 hw ad532 est ad533_0 (ad533_0 + 1) (ad533_0 + 2) kc533_0 kc533_1 (0 : Int64) lo1 ad533_1 (ad533_1 + 1) (ad533_1 + 2) kc533_2 kc533_3 (9223372036854775807 : Int64) up1 ad533_2 (ad533_2 + 1) (ad533_2 + 2) kc533_4 kc533_5 h568 n0 sz569 (Nat.le_trans ge_ad533_0 (Nat.le_add_right _ _)) (Nat.le_trans ge_ad533_1 (Nat.le_add_right _ _)) (Nat.le_trans ge_ad533_2 (Nat.le_add_right _ _)) F570 F571 F572 F573 F574 F575 F576 F577 F578 F579 (by omega : @Ne Nat (ad533_0 + 2) ad533_1) (by omega : @Ne Nat (ad533_0 + 2) (ad533_1 + 2)) (by omega : @Ne Nat (ad533_0 + 2) ad533_2) (by omega : @Ne Nat (ad533_0 + 2) (ad533_2 + 2)) (by omega : @Ne Nat (ad533_0 + 2) ad532) (by omega : @Ne Nat (ad533_0 + 2) ad533_0) (by omega : @Ne Nat (ad533_1 + 2) ad533_2) (by omega : @Ne Nat (ad533_1 + 2) (ad533_2 + 2)) (by omega : @Ne Nat (ad533_1 + 2) ad532) (by omega : @Ne Nat (ad533_1 + 2) ad533_0) (by omega : @Ne Nat (ad533_1 + 2) ad533_1) (by omega : @Ne Nat (ad533_2 + 2) ad532) (by omega : @Ne Nat (ad533_2 + 2) ad533_0) (by omega : @Ne Nat (ad533_2 + 2) ad533_1) (by omega : @Ne Nat (ad533_2 + 2) ad533_2)) (by decide) (by decide) rfl rfl (by decide) (by decide) rfl pd_28IIJ29V rfl rfl rfl (Nat.le_of_ble_eq_true rfl) rfl ?_
          rintro h580 v580 ⟨rfl, K580, Fc580_0, Fc580_1, Fc580_2⟩
          have sz581 : n0 ≤ h580.size := Nat.le_trans sz569 K580.1
          show GoB0 l Z n0 OwnW.One1 h580 10 21 116 #[.val (.int sel), .val (.long est), .second, .val (.long lo1), .second, .val (.long up1), .second, .val (.long lo2), .second, .val (.long up2), .second, .val (.int (1 : Int32)), .val (.int (1 : Int32)), .val (.int (3 : Int32)), .val (.int (1 : Int32)), .val (.int (0 : Int32)), .val (.int (1 : Int32)), .val (.int sb), .val (.ref ad532)] []
          refine OwnW.aload (pc' := 118) at_116 rfl (rfl) rfl ?_
          refine OwnW.iload (pc' := 120) at_118 rfl rfl ?_
          refine OwnW.iload (pc' := 122) at_120 rfl rfl ?_
          have F582 := (F571.keep K580 (ninS (by omega : @Ne Nat ad532 (ad533_0 + 2)) (ninS (by omega : @Ne Nat ad532 (ad533_1 + 2)) (ninS (by omega : @Ne Nat ad532 (ad533_2 + 2)) nin0))))
          have F583 := (F572.keep K580 (ninS (by omega : @Ne Nat ad533_0 (ad533_0 + 2)) (ninS (by omega : @Ne Nat ad533_0 (ad533_1 + 2)) (ninS (by omega : @Ne Nat ad533_0 (ad533_2 + 2)) nin0))))
          have F584 := (F570.keep K580)
          refine OwnW.callV0 (a0 := a0) (pc' := 125) (W := 0) (k' := 10) (n' := 21) (argsL := [(.int (1 : Int32)), (.int (1 : Int32))]) (rest := []) (St' := [(.long (f6_11 ad532 ad533_0 (ad533_0 + 1) (ad533_0 + 2) kc533_0 kc533_1 (0 : Int64) est))]) at_122 (hw _ (List.mem_of_getElem? (i := 36) rfl)) (hw _ (List.mem_of_getElem? (i := 37) rfl)) (hw _ (List.mem_of_getElem? (i := 39) rfl)) (hw _ (List.mem_of_getElem? (i := 38) rfl)) (hw _ (List.mem_of_getElem? (i := 2) rfl)) (hw _ (List.mem_of_getElem? (i := 40) rfl)) (by decide) F584 (rm6_11 l Z a0 hw ad532 ad533_0 (ad533_0 + 1) (ad533_0 + 2) kc533_0 kc533_1 (0 : Int64) est h580 n0 F582 F583 Fc580_0) (by decide) (by decide) rfl rfl (by decide) (by decide) rfl pd_28II29J rfl rfl rfl (Nat.le_of_ble_eq_true rfl) rfl rfl ?_
          refine OwnW.lloadN (pc' := 126) at_125 rfl rfl ?_
          refine OwnW.lcmp (pc' := 127) at_126 rfl ?_
          refine OwnW.ifcN (pc' := 130) at_127 ((if0 _ _).trans (teq ((lw_eq _ _).mpr rfl)).2) rfl ?_
          refine OwnW.aload (pc' := 132) at_130 rfl (rfl) rfl ?_
          refine OwnW.iload (pc' := 134) at_132 rfl rfl ?_
          refine OwnW.iload (pc' := 136) at_134 rfl rfl ?_
          have F585 := (F574.keep K580 (ninS (by omega : @Ne Nat ad532 (ad533_0 + 2)) (ninS (by omega : @Ne Nat ad532 (ad533_1 + 2)) (ninS (by omega : @Ne Nat ad532 (ad533_2 + 2)) nin0))))
          have F586 := (F575.keep K580 (ninS (by omega : @Ne Nat ad533_1 (ad533_0 + 2)) (ninS (by omega : @Ne Nat ad533_1 (ad533_1 + 2)) (ninS (by omega : @Ne Nat ad533_1 (ad533_2 + 2)) nin0))))
          refine OwnW.callV0 (a0 := a0) (pc' := 139) (W := 0) (k' := 10) (n' := 21) (argsL := [(.int (1 : Int32)), (.int (1 : Int32))]) (rest := []) (St' := [(.long (f7_11 ad532 ad533_1 (ad533_1 + 1) (ad533_1 + 2) kc533_2 kc533_3 (9223372036854775807 : Int64) (9223372036854775807 : Int64)))]) at_136 (hw _ (List.mem_of_getElem? (i := 41) rfl)) (hw _ (List.mem_of_getElem? (i := 42) rfl)) (hw _ (List.mem_of_getElem? (i := 44) rfl)) (hw _ (List.mem_of_getElem? (i := 43) rfl)) (hw _ (List.mem_of_getElem? (i := 2) rfl)) (hw _ (List.mem_of_getElem? (i := 45) rfl)) (by decide) F584 (rm7_11 l Z a0 hw ad532 ad533_1 (ad533_1 + 1) (ad533_1 + 2) kc533_2 kc533_3 (9223372036854775807 : Int64) (9223372036854775807 : Int64) h580 n0 F585 F586 Fc580_1) (by decide) (by decide) rfl rfl (by decide) (by decide) rfl pd_28II29J rfl rfl rfl (Nat.le_of_ble_eq_true rfl) rfl rfl ?_
          refine OwnW.ldc2J (a0 := a0) (pc' := 142) (v := (9223372036854775807 : Int64)) at_139 (hw _ (List.mem_of_getElem? (i := 46) rfl)) rfl ?_
          refine OwnW.lcmp (pc' := 143) at_142 rfl ?_
          refine OwnW.ifcN (pc' := 146) at_143 ((if0 _ _).trans (teq ((lw_eq _ _).mpr rfl)).2) rfl ?_
          refine OwnW.aload (pc' := 148) at_146 rfl (rfl) rfl ?_
          refine OwnW.iload (pc' := 150) at_148 rfl rfl ?_
          refine OwnW.iload (pc' := 152) at_150 rfl rfl ?_
          have F587 := (Fc568_0.keep K580 (ninS (by omega : @Ne Nat (ad533_0 + 1) (ad533_0 + 2)) (ninS (by omega : @Ne Nat (ad533_0 + 1) (ad533_1 + 2)) (ninS (by omega : @Ne Nat (ad533_0 + 1) (ad533_2 + 2)) nin0))))
          refine OwnW.callV0 (a0 := a0) (pc' := 155) (W := 0) (k' := 10) (n' := 21) (argsL := [(.int (0 : Int32)), (.int (1 : Int32))]) (rest := []) (St' := [(.long (f6_01 ad532 ad533_0 (ad533_0 + 1) (ad533_0 + 2) kc533_0 kc533_1 (0 : Int64) lo2))]) at_152 (hw _ (List.mem_of_getElem? (i := 36) rfl)) (hw _ (List.mem_of_getElem? (i := 37) rfl)) (hw _ (List.mem_of_getElem? (i := 39) rfl)) (hw _ (List.mem_of_getElem? (i := 38) rfl)) (hw _ (List.mem_of_getElem? (i := 2) rfl)) (hw _ (List.mem_of_getElem? (i := 40) rfl)) (by decide) F584 (rm6_01 l Z a0 hw ad532 ad533_0 (ad533_0 + 1) (ad533_0 + 2) kc533_0 kc533_1 (0 : Int64) lo2 h580 n0 F582 F583 F587) (by decide) (by decide) rfl rfl (by decide) (by decide) rfl pd_28II29J rfl rfl rfl (Nat.le_of_ble_eq_true rfl) rfl rfl ?_
          refine OwnW.lload (pc' := 157) at_155 rfl rfl ?_
          refine OwnW.lcmp (pc' := 158) at_157 rfl ?_
          refine OwnW.ifcN (pc' := 161) at_158 ((if0 _ _).trans (teq ((lw_eq _ _).mpr rfl)).2) rfl ?_
          refine OwnW.aload (pc' := 163) at_161 rfl (rfl) rfl ?_
          refine OwnW.iload (pc' := 165) at_163 rfl rfl ?_
          refine OwnW.iload (pc' := 167) at_165 rfl rfl ?_
          have F588 := (Fc568_1.keep K580 (ninS (by omega : @Ne Nat (ad533_1 + 1) (ad533_0 + 2)) (ninS (by omega : @Ne Nat (ad533_1 + 1) (ad533_1 + 2)) (ninS (by omega : @Ne Nat (ad533_1 + 1) (ad533_2 + 2)) nin0))))
          refine OwnW.callV0 (a0 := a0) (pc' := 170) (W := 0) (k' := 10) (n' := 21) (argsL := [(.int (0 : Int32)), (.int (1 : Int32))]) (rest := []) (St' := [(.long (f7_01 ad532 ad533_1 (ad533_1 + 1) (ad533_1 + 2) kc533_2 kc533_3 (9223372036854775807 : Int64) up2))]) at_167 (hw _ (List.mem_of_getElem? (i := 41) rfl)) (hw _ (List.mem_of_getElem? (i := 42) rfl)) (hw _ (List.mem_of_getElem? (i := 44) rfl)) (hw _ (List.mem_of_getElem? (i := 43) rfl)) (hw _ (List.mem_of_getElem? (i := 2) rfl)) (hw _ (List.mem_of_getElem? (i := 45) rfl)) (by decide) F584 (rm7_01 l Z a0 hw ad532 ad533_1 (ad533_1 + 1) (ad533_1 + 2) kc533_2 kc533_3 (9223372036854775807 : Int64) up2 h580 n0 F585 F586 F588) (by decide) (by decide) rfl rfl (by decide) (by decide) rfl pd_28II29J rfl rfl rfl (Nat.le_of_ble_eq_true rfl) rfl rfl ?_
          refine OwnW.lload (pc' := 172) at_170 rfl rfl ?_
          refine OwnW.lcmp (pc' := 173) at_172 rfl ?_
          refine OwnW.ifcN (pc' := 176) at_173 ((if0 _ _).trans (teq ((lw_eq _ _).mpr rfl)).2) rfl ?_
          refine OwnW.iconst (pc' := 177) (v := (1 : Int32)) at_176 rfl rfl ?_
          refine OwnW.goto (pc' := 181) at_177 (by decide) (by decide) ?_
          exact OwnW.retN (t := .boolean) at_181 rfl (by simp) rfl (by decide) (by decide) (rfl)
      ·
        show GoB0 l Z n0 OwnW.One1 h0 0 0 32 #[.val (.int sel), .val (.long est), .second, .val (.long lo1), .second, .val (.long up1), .second, .val (.long lo2), .second, .val (.long up2), .second, .val (.int (1 : Int32)), .val (.int (1 : Int32)), .val (.int (3 : Int32)), .unset, .unset, .unset, .unset, .unset] [(.int (2 : Int32)), (.int (4 : Int32))]
        refine OwnW.iadd (pc' := 33) at_32 rfl ?_
        show GoB0 l Z n0 OwnW.One1 h0 0 0 33 #[.val (.int sel), .val (.long est), .second, .val (.long lo1), .second, .val (.long up1), .second, .val (.long lo2), .second, .val (.long up2), .second, .val (.int (1 : Int32)), .val (.int (1 : Int32)), .val (.int (3 : Int32)), .unset, .unset, .unset, .unset, .unset] [(.int (6 : Int32))]
        refine OwnW.iconst (pc' := 34) (v := (3 : Int32)) at_33 rfl rfl ?_
        refine OwnW.iand (pc' := 35) at_34 rfl ?_
        show GoB0 l Z n0 OwnW.One1 h0 0 0 35 #[.val (.int sel), .val (.long est), .second, .val (.long lo1), .second, .val (.long up1), .second, .val (.long lo2), .second, .val (.long up2), .second, .val (.int (1 : Int32)), .val (.int (1 : Int32)), .val (.int (3 : Int32)), .unset, .unset, .unset, .unset, .unset] [(.int (2 : Int32))]
        refine OwnW.istore (pc' := 37) (L' := #[.val (.int sel), .val (.long est), .second, .val (.long lo1), .second, .val (.long up1), .second, .val (.long lo2), .second, .val (.long up2), .second, .val (.int (1 : Int32)), .val (.int (1 : Int32)), .val (.int (3 : Int32)), .val (.int (2 : Int32)), .unset, .unset, .unset, .unset]) at_35 rfl rfl ?_
        refine OwnW.iload (pc' := 39) at_37 rfl rfl ?_
        refine OwnW.iconst (pc' := 40) (v := (1 : Int32)) at_39 rfl rfl ?_
        refine OwnW.ishr (pc' := 41) at_40 rfl ?_
        show GoB0 l Z n0 OwnW.One1 h0 0 0 41 #[.val (.int sel), .val (.long est), .second, .val (.long lo1), .second, .val (.long up1), .second, .val (.long lo2), .second, .val (.long up2), .second, .val (.int (1 : Int32)), .val (.int (1 : Int32)), .val (.int (3 : Int32)), .val (.int (2 : Int32)), .unset, .unset, .unset, .unset] [(.int (1 : Int32))]
        refine OwnW.istore (pc' := 43) (L' := #[.val (.int sel), .val (.long est), .second, .val (.long lo1), .second, .val (.long up1), .second, .val (.long lo2), .second, .val (.long up2), .second, .val (.int (1 : Int32)), .val (.int (1 : Int32)), .val (.int (3 : Int32)), .val (.int (2 : Int32)), .val (.int (1 : Int32)), .unset, .unset, .unset]) at_41 rfl rfl ?_
        refine OwnW.iload (pc' := 45) at_43 rfl rfl ?_
        refine OwnW.iconst (pc' := 46) (v := (1 : Int32)) at_45 rfl rfl ?_
        refine OwnW.iand (pc' := 47) at_46 rfl ?_
        show GoB0 l Z n0 OwnW.One1 h0 0 0 47 #[.val (.int sel), .val (.long est), .second, .val (.long lo1), .second, .val (.long up1), .second, .val (.long lo2), .second, .val (.long up2), .second, .val (.int (1 : Int32)), .val (.int (1 : Int32)), .val (.int (3 : Int32)), .val (.int (2 : Int32)), .val (.int (1 : Int32)), .unset, .unset, .unset] [(.int (0 : Int32))]
        refine OwnW.istore (pc' := 49) (L' := #[.val (.int sel), .val (.long est), .second, .val (.long lo1), .second, .val (.long up1), .second, .val (.long lo2), .second, .val (.long up2), .second, .val (.int (1 : Int32)), .val (.int (1 : Int32)), .val (.int (3 : Int32)), .val (.int (2 : Int32)), .val (.int (1 : Int32)), .val (.int (0 : Int32)), .unset, .unset]) at_47 rfl rfl ?_
        refine OwnW.iloadN (pc' := 50) at_49 rfl rfl ?_
        refine OwnW.bipush (pc' := 52) (v := (16 : Int32)) at_50 rfl rfl ?_
        refine OwnW.iand (pc' := 53) at_52 rfl ?_
        suffices J53_61 : ∀ (sb : Int32), sb = (if (sel &&& (16 : Int32)) = (0 : Int32) then (0 : Int32) else (1 : Int32)) → GoB0 l Z n0 OwnW.One1 h0 0 0 61 #[.val (.int sel), .val (.long est), .second, .val (.long lo1), .second, .val (.long up1), .second, .val (.long lo2), .second, .val (.long up2), .second, .val (.int (1 : Int32)), .val (.int (1 : Int32)), .val (.int (3 : Int32)), .val (.int (2 : Int32)), .val (.int (1 : Int32)), .val (.int (0 : Int32)), .unset, .unset] [(.int sb)] by
          by_cases hc53 : (sel &&& (16 : Int32)) = (0 : Int32)
          ·
            refine OwnW.ifcY (pc' := 60) at_53 ((if0 _ _).trans (teq hc53).1) (by decide) (by decide) ?_
            refine OwnW.iconst (pc' := 61) (v := (0 : Int32)) at_60 rfl rfl ?_
            exact J53_61 _ (by first | simp only [if_pos hc53] | rfl)
          ·
            refine OwnW.ifcN (pc' := 56) at_53 ((if0 _ _).trans (feq hc53).1) rfl ?_
            refine OwnW.iconst (pc' := 57) (v := (1 : Int32)) at_56 rfl rfl ?_
            refine OwnW.goto (pc' := 61) at_57 (by decide) (by decide) ?_
            exact J53_61 _ (by first | simp only [if_neg hc53] | rfl)
        intro sb hsb
        refine OwnW.istore (pc' := 63) (L' := #[.val (.int sel), .val (.long est), .second, .val (.long lo1), .second, .val (.long up1), .second, .val (.long lo2), .second, .val (.long up2), .second, .val (.int (1 : Int32)), .val (.int (1 : Int32)), .val (.int (3 : Int32)), .val (.int (2 : Int32)), .val (.int (1 : Int32)), .val (.int (0 : Int32)), .val (.int sb), .unset]) at_61 rfl rfl ?_
        refine OwnW.newO (a0 := a0) (pc' := 66) (k' := 1) (n' := 3) at_63 (hw _ (List.mem_of_getElem? (i := 0) rfl)) (hw _ (List.mem_of_getElem? (i := 1) rfl)) (hw _ (List.mem_of_getElem? (i := 2) rfl)) rfl rfl (by decide) (by decide) rfl ?_
        intro h589 ad589 g589 E589 A589 D589
        have ge_ad589 : n0 ≤ ad589 := Nat.le_trans Z0 (Nat.le_of_eq g589.symm)
        have sz_ad589 : n0 ≤ h589.size := Nat.le_trans Z0 E589.1
        have F589_lower : Fld Z h589 ad589 "com/example/parley/parley/treesearch/ChildBounds" "lower" "[[J" .null := D589 (Or.inr (hw _ (List.mem_of_getElem? (i := 13) rfl))) (ty := (.array (.array .long))) (by decide)
        have F589_upper : Fld Z h589 ad589 "com/example/parley/parley/treesearch/ChildBounds" "upper" "[[J" .null := D589 (Or.inr (hw _ (List.mem_of_getElem? (i := 15) rfl))) (ty := (.array (.array .long))) (by decide)
        have F589_assignments : Fld Z h589 ad589 "com/example/parley/parley/treesearch/ChildBounds" "assignments" "[[Lcom/example/parley/parley/treesearch/SubtreeAssignment;" .null := D589 (Or.inr (hw _ (List.mem_of_getElem? (i := 20) rfl))) (ty := (.array (.array (.object "com/example/parley/parley/treesearch/SubtreeAssignment")))) (by decide)
        refine OwnW.dup (pc' := 67) at_66 rfl rfl ?_
        refine OwnW.iconst (pc' := 68) (v := (2 : Int32)) at_67 rfl rfl ?_
        refine OwnW.iconst (pc' := 69) (v := (2 : Int32)) at_68 rfl rfl ?_
        refine OwnW.callI (a0 := a0) (pc' := 72) (W := 1) (k' := 10) (n' := 21) (argsL := [(.int (2 : Int32)), (.int (2 : Int32))]) (rest := [(.ref ad589)]) at_69 rfl (hw _ (List.mem_of_getElem? (i := 3) rfl)) (hw _ (List.mem_of_getElem? (i := 4) rfl)) (hw _ (List.mem_of_getElem? (i := 2) rfl)) (hw _ (List.mem_of_getElem? (i := 5) rfl)) (by decide) (rm1 l Z a0 hw ad589 h589 n0 sz_ad589 ge_ad589 A589 F589_lower F589_upper F589_assignments) (by decide) (by decide) rfl rfl (by decide) (by decide) rfl pd_28II29V rfl rfl rfl (Nat.le_of_ble_eq_true rfl) rfl ?_
        rintro h590 v590 ⟨ad590_0, ad590_1, ad590_2, kc590_0, kc590_1, kc590_2, kc590_3, kc590_4, kc590_5, rfl, K590, gl590_0, gl590_1, gl590_2, nn590_0_1, nn590_0_2, nn590_1_2, pp590_0, pp590_1, Fc590_0, Fc590_1, Fc590_2, Fc590_3, Fc590_4, Fc590_5, Fc590_6, Fc590_7, Fc590_8, Fc590_9, Fc590_10, Fc590_11, Fc590_12, Fc590_13⟩
        have lt_ad589_ad590_0 : @LT.lt Nat _ ad589 ad590_0 := Nat.lt_of_lt_of_le (A589).lt gl590_0
        have ge_ad590_0 : n0 ≤ ad590_0 := Nat.le_trans sz_ad589 gl590_0
        have lt_ad589_ad590_1 : @LT.lt Nat _ ad589 ad590_1 := Nat.lt_of_lt_of_le (A589).lt gl590_1
        have ge_ad590_1 : n0 ≤ ad590_1 := Nat.le_trans sz_ad589 gl590_1
        have lt_ad589_ad590_2 : @LT.lt Nat _ ad589 ad590_2 := Nat.lt_of_lt_of_le (A589).lt gl590_2
        have ge_ad590_2 : n0 ≤ ad590_2 := Nat.le_trans sz_ad589 gl590_2
        have sz591 : n0 ≤ h590.size := Nat.le_trans sz_ad589 K590.1
        show GoB0 l Z n0 OwnW.One1 h590 10 21 72 #[.val (.int sel), .val (.long est), .second, .val (.long lo1), .second, .val (.long up1), .second, .val (.long lo2), .second, .val (.long up2), .second, .val (.int (1 : Int32)), .val (.int (1 : Int32)), .val (.int (3 : Int32)), .val (.int (2 : Int32)), .val (.int (1 : Int32)), .val (.int (0 : Int32)), .val (.int sb), .unset] [(.ref ad589)]
        refine OwnW.astore (pc' := 74) (L' := #[.val (.int sel), .val (.long est), .second, .val (.long lo1), .second, .val (.long up1), .second, .val (.long lo2), .second, .val (.long up2), .second, .val (.int (1 : Int32)), .val (.int (1 : Int32)), .val (.int (3 : Int32)), .val (.int (2 : Int32)), .val (.int (1 : Int32)), .val (.int (0 : Int32)), .val (.int sb), .val (.ref ad589)]) at_72 (rfl) rfl rfl ?_
        refine OwnW.iload (pc' := 76) at_74 rfl rfl ?_
        by_cases hc76 : sb = (0 : Int32)
        ·
          refine OwnW.ifcY (pc' := 92) at_76 ((if0 _ _).trans (teq hc76).1) (by decide) (by decide) ?_
          refine OwnW.aload (pc' := 94) at_92 rfl (rfl) rfl ?_
          refine OwnW.iload (pc' := 96) at_94 rfl rfl ?_
          refine OwnW.iload (pc' := 98) at_96 rfl rfl ?_
          refine OwnW.lload (pc' := 100) at_98 rfl rfl ?_
          refine OwnW.lload (pc' := 102) at_100 rfl rfl ?_
          refine OwnW.aconstNull (pc' := 103) at_102 rfl ?_
          refine OwnW.callV (a0 := a0) (pc' := 106) (W := 0) (k' := 10) (n' := 21) (argsL := [(.int (1 : Int32)), (.int (0 : Int32)), (.long lo2), (.long up2), .null]) (rest := []) at_103 (hw _ (List.mem_of_getElem? (i := 26) rfl)) (hw _ (List.mem_of_getElem? (i := 27) rfl)) (hw _ (List.mem_of_getElem? (i := 29) rfl)) (hw _ (List.mem_of_getElem? (i := 28) rfl)) (hw _ (List.mem_of_getElem? (i := 2) rfl)) (hw _ (List.mem_of_getElem? (i := 30) rfl)) (by decide) Fc590_0 (rm4_10 l Z a0 hw ad589 lo2 up2 ad590_0 (ad590_0 + 1) (ad590_0 + 2) kc590_0 kc590_1 (0 : Int64) (0 : Int64) ad590_1 (ad590_1 + 1) (ad590_1 + 2) kc590_2 kc590_3 (9223372036854775807 : Int64) (9223372036854775807 : Int64) ad590_2 (ad590_2 + 1) (ad590_2 + 2) kc590_4 kc590_5 h590 n0 sz591 (Nat.le_trans ge_ad590_0 (Nat.le_add_right _ _)) (Nat.le_trans ge_ad590_1 (Nat.le_add_right _ _)) (Nat.le_trans ge_ad590_2 (Nat.le_add_right _ _)) Fc590_0 Fc590_1 Fc590_4 Fc590_6 Fc590_2 Fc590_7 Fc590_9 Fc590_3 Fc590_10 Fc590_12 (by omega : @Ne Nat (ad590_0 + 2) ad590_1) (by omega : @Ne Nat (ad590_0 + 2) (ad590_1 + 2)) (by omega : @Ne Nat (ad590_0 + 2) ad590_2) (by omega : @Ne Nat (ad590_0 + 2) (ad590_2 + 2)) (by omega : @Ne Nat (ad590_0 + 2) ad589) (by omega : @Ne Nat (ad590_0 + 2) ad590_0) (by omega : @Ne Nat (ad590_1 + 2) ad590_2) (by omega : @Ne Nat (ad590_1 + 2) (ad590_2 + 2)) (by omega : @Ne Nat (ad590_1 + 2) ad589) (by omega : @Ne Nat (ad590_1 + 2) ad590_0) (by omega : @Ne Nat (ad590_1 + 2) ad590_1) (by omega : @Ne Nat (ad590_2 + 2) ad589) (by omega : @Ne Nat (ad590_2 + 2) ad590_0) (by omega : @Ne Nat (ad590_2 + 2) ad590_1) (by omega : @Ne Nat (ad590_2 + 2) ad590_2)) (by decide) (by decide) rfl rfl (by decide) (by decide) rfl pd_28IIJJLcom2fexample2fparley2fparley2ftreesearch2fSubtreeAssignment3b29V rfl rfl rfl (Nat.le_of_ble_eq_true rfl) rfl ?_
          rintro h592 v592 ⟨rfl, K592, Fc592_0, Fc592_1, Fc592_2⟩
          have sz593 : n0 ≤ h592.size := Nat.le_trans sz591 K592.1
          show GoB0 l Z n0 OwnW.One1 h592 10 21 106 #[.val (.int sel), .val (.long est), .second, .val (.long lo1), .second, .val (.long up1), .second, .val (.long lo2), .second, .val (.long up2), .second, .val (.int (1 : Int32)), .val (.int (1 : Int32)), .val (.int (3 : Int32)), .val (.int (2 : Int32)), .val (.int (1 : Int32)), .val (.int (0 : Int32)), .val (.int sb), .val (.ref ad589)] []
          refine OwnW.aload (pc' := 108) at_106 rfl (rfl) rfl ?_
          refine OwnW.iload (pc' := 110) at_108 rfl rfl ?_
          refine OwnW.iload (pc' := 112) at_110 rfl rfl ?_
          refine OwnW.lloadN (pc' := 113) at_112 rfl rfl ?_
          have F594 := (Fc590_0.keep K592)
          have F595 := (Fc590_1.keep K592 (ninS (by omega : @Ne Nat ad589 (ad590_0 + 2)) (ninS (by omega : @Ne Nat ad589 (ad590_1 + 2)) (ninS (by omega : @Ne Nat ad589 (ad590_2 + 2)) nin0))))
          have F596 := (Fc590_4.keep K592 (ninS (by omega : @Ne Nat ad590_0 (ad590_0 + 2)) (ninS (by omega : @Ne Nat ad590_0 (ad590_1 + 2)) (ninS (by omega : @Ne Nat ad590_0 (ad590_2 + 2)) nin0))))
          have F597 := (Fc590_2.keep K592 (ninS (by omega : @Ne Nat ad589 (ad590_0 + 2)) (ninS (by omega : @Ne Nat ad589 (ad590_1 + 2)) (ninS (by omega : @Ne Nat ad589 (ad590_2 + 2)) nin0))))
          have F598 := (Fc590_7.keep K592 (ninS (by omega : @Ne Nat ad590_1 (ad590_0 + 2)) (ninS (by omega : @Ne Nat ad590_1 (ad590_1 + 2)) (ninS (by omega : @Ne Nat ad590_1 (ad590_2 + 2)) nin0))))
          have F599 := (Fc590_3.keep K592 (ninS (by omega : @Ne Nat ad589 (ad590_0 + 2)) (ninS (by omega : @Ne Nat ad589 (ad590_1 + 2)) (ninS (by omega : @Ne Nat ad589 (ad590_2 + 2)) nin0))))
          have F600 := (Fc590_10.keep K592 (ninS (by omega : @Ne Nat ad590_2 (ad590_0 + 2)) (ninS (by omega : @Ne Nat ad590_2 (ad590_1 + 2)) (ninS (by omega : @Ne Nat ad590_2 (ad590_2 + 2)) nin0))))
          refine OwnW.callV (a0 := a0) (pc' := 116) (W := 0) (k' := 10) (n' := 21) (argsL := [(.int (1 : Int32)), (.int (1 : Int32)), (.long est)]) (rest := []) at_113 (hw _ (List.mem_of_getElem? (i := 31) rfl)) (hw _ (List.mem_of_getElem? (i := 32) rfl)) (hw _ (List.mem_of_getElem? (i := 34) rfl)) (hw _ (List.mem_of_getElem? (i := 33) rfl)) (hw _ (List.mem_of_getElem? (i := 2) rfl)) (hw _ (List.mem_of_getElem? (i := 35) rfl)) (by decide) F594 (rm5_11 l Z a0 hw ad589 est ad590_0 (ad590_0 + 1) (ad590_0 + 2) kc590_0 kc590_1 lo2 (0 : Int64) ad590_1 (ad590_1 + 1) (ad590_1 + 2) kc590_2 kc590_3 up2 (9223372036854775807 : Int64) ad590_2 (ad590_2 + 1) (ad590_2 + 2) kc590_4 kc590_5 h592 n0 sz593 (Nat.le_trans ge_ad590_0 (Nat.le_add_right _ _)) (Nat.le_trans ge_ad590_1 (Nat.le_add_right _ _)) (Nat.le_trans ge_ad590_2 (Nat.le_add_right _ _)) F594 F595 F596 Fc592_0 F597 F598 Fc592_1 F599 F600 Fc592_2 (by omega : @Ne Nat (ad590_0 + 2) ad590_1) (by omega : @Ne Nat (ad590_0 + 2) (ad590_1 + 2)) (by omega : @Ne Nat (ad590_0 + 2) ad590_2) (by omega : @Ne Nat (ad590_0 + 2) (ad590_2 + 2)) (by omega : @Ne Nat (ad590_0 + 2) ad589) (by omega : @Ne Nat (ad590_0 + 2) ad590_0) (by omega : @Ne Nat (ad590_1 + 2) ad590_2) (by omega : @Ne Nat (ad590_1 + 2) (ad590_2 + 2)) (by omega : @Ne Nat (ad590_1 + 2) ad589) (by omega : @Ne Nat (ad590_1 + 2) ad590_0) (by omega : @Ne Nat (ad590_1 + 2) ad590_1) (by omega : @Ne Nat (ad590_2 + 2) ad589) (by omega : @Ne Nat (ad590_2 + 2) ad590_0) (by omega : @Ne Nat (ad590_2 + 2) ad590_1) (by omega : @Ne Nat (ad590_2 + 2) ad590_2)) (by decide) (by decide) rfl rfl (by decide) (by decide) rfl pd_28IIJ29V rfl rfl rfl (Nat.le_of_ble_eq_true rfl) rfl ?_
          rintro h601 v601 ⟨rfl, K601, Fc601_0, Fc601_1, Fc601_2⟩
          have sz602 : n0 ≤ h601.size := Nat.le_trans sz593 K601.1
          show GoB0 l Z n0 OwnW.One1 h601 10 21 116 #[.val (.int sel), .val (.long est), .second, .val (.long lo1), .second, .val (.long up1), .second, .val (.long lo2), .second, .val (.long up2), .second, .val (.int (1 : Int32)), .val (.int (1 : Int32)), .val (.int (3 : Int32)), .val (.int (2 : Int32)), .val (.int (1 : Int32)), .val (.int (0 : Int32)), .val (.int sb), .val (.ref ad589)] []
          refine OwnW.aload (pc' := 118) at_116 rfl (rfl) rfl ?_
          refine OwnW.iload (pc' := 120) at_118 rfl rfl ?_
          refine OwnW.iload (pc' := 122) at_120 rfl rfl ?_
          have F603 := (F595.keep K601 (ninS (by omega : @Ne Nat ad589 (ad590_0 + 2)) (ninS (by omega : @Ne Nat ad589 (ad590_1 + 2)) (ninS (by omega : @Ne Nat ad589 (ad590_2 + 2)) nin0))))
          have F604 := (F596.keep K601 (ninS (by omega : @Ne Nat ad590_0 (ad590_0 + 2)) (ninS (by omega : @Ne Nat ad590_0 (ad590_1 + 2)) (ninS (by omega : @Ne Nat ad590_0 (ad590_2 + 2)) nin0))))
          have F605 := (F594.keep K601)
          refine OwnW.callV0 (a0 := a0) (pc' := 125) (W := 0) (k' := 10) (n' := 21) (argsL := [(.int (1 : Int32)), (.int (1 : Int32))]) (rest := []) (St' := [(.long (f6_11 ad589 ad590_0 (ad590_0 + 1) (ad590_0 + 2) kc590_0 kc590_1 lo2 est))]) at_122 (hw _ (List.mem_of_getElem? (i := 36) rfl)) (hw _ (List.mem_of_getElem? (i := 37) rfl)) (hw _ (List.mem_of_getElem? (i := 39) rfl)) (hw _ (List.mem_of_getElem? (i := 38) rfl)) (hw _ (List.mem_of_getElem? (i := 2) rfl)) (hw _ (List.mem_of_getElem? (i := 40) rfl)) (by decide) F605 (rm6_11 l Z a0 hw ad589 ad590_0 (ad590_0 + 1) (ad590_0 + 2) kc590_0 kc590_1 lo2 est h601 n0 F603 F604 Fc601_0) (by decide) (by decide) rfl rfl (by decide) (by decide) rfl pd_28II29J rfl rfl rfl (Nat.le_of_ble_eq_true rfl) rfl rfl ?_
          refine OwnW.lloadN (pc' := 126) at_125 rfl rfl ?_
          refine OwnW.lcmp (pc' := 127) at_126 rfl ?_
          refine OwnW.ifcN (pc' := 130) at_127 ((if0 _ _).trans (teq ((lw_eq _ _).mpr rfl)).2) rfl ?_
          refine OwnW.aload (pc' := 132) at_130 rfl (rfl) rfl ?_
          refine OwnW.iload (pc' := 134) at_132 rfl rfl ?_
          refine OwnW.iload (pc' := 136) at_134 rfl rfl ?_
          have F606 := (F597.keep K601 (ninS (by omega : @Ne Nat ad589 (ad590_0 + 2)) (ninS (by omega : @Ne Nat ad589 (ad590_1 + 2)) (ninS (by omega : @Ne Nat ad589 (ad590_2 + 2)) nin0))))
          have F607 := (F598.keep K601 (ninS (by omega : @Ne Nat ad590_1 (ad590_0 + 2)) (ninS (by omega : @Ne Nat ad590_1 (ad590_1 + 2)) (ninS (by omega : @Ne Nat ad590_1 (ad590_2 + 2)) nin0))))
          refine OwnW.callV0 (a0 := a0) (pc' := 139) (W := 0) (k' := 10) (n' := 21) (argsL := [(.int (1 : Int32)), (.int (1 : Int32))]) (rest := []) (St' := [(.long (f7_11 ad589 ad590_1 (ad590_1 + 1) (ad590_1 + 2) kc590_2 kc590_3 up2 (9223372036854775807 : Int64)))]) at_136 (hw _ (List.mem_of_getElem? (i := 41) rfl)) (hw _ (List.mem_of_getElem? (i := 42) rfl)) (hw _ (List.mem_of_getElem? (i := 44) rfl)) (hw _ (List.mem_of_getElem? (i := 43) rfl)) (hw _ (List.mem_of_getElem? (i := 2) rfl)) (hw _ (List.mem_of_getElem? (i := 45) rfl)) (by decide) F605 (rm7_11 l Z a0 hw ad589 ad590_1 (ad590_1 + 1) (ad590_1 + 2) kc590_2 kc590_3 up2 (9223372036854775807 : Int64) h601 n0 F606 F607 Fc601_1) (by decide) (by decide) rfl rfl (by decide) (by decide) rfl pd_28II29J rfl rfl rfl (Nat.le_of_ble_eq_true rfl) rfl rfl ?_
          refine OwnW.ldc2J (a0 := a0) (pc' := 142) (v := (9223372036854775807 : Int64)) at_139 (hw _ (List.mem_of_getElem? (i := 46) rfl)) rfl ?_
          refine OwnW.lcmp (pc' := 143) at_142 rfl ?_
          refine OwnW.ifcN (pc' := 146) at_143 ((if0 _ _).trans (teq ((lw_eq _ _).mpr rfl)).2) rfl ?_
          refine OwnW.aload (pc' := 148) at_146 rfl (rfl) rfl ?_
          refine OwnW.iload (pc' := 150) at_148 rfl rfl ?_
          refine OwnW.iload (pc' := 152) at_150 rfl rfl ?_
          refine OwnW.callV0 (a0 := a0) (pc' := 155) (W := 0) (k' := 10) (n' := 21) (argsL := [(.int (1 : Int32)), (.int (0 : Int32))]) (rest := []) (St' := [(.long (f6_10 ad589 ad590_0 (ad590_0 + 1) (ad590_0 + 2) kc590_0 kc590_1 lo2 est))]) at_152 (hw _ (List.mem_of_getElem? (i := 36) rfl)) (hw _ (List.mem_of_getElem? (i := 37) rfl)) (hw _ (List.mem_of_getElem? (i := 39) rfl)) (hw _ (List.mem_of_getElem? (i := 38) rfl)) (hw _ (List.mem_of_getElem? (i := 2) rfl)) (hw _ (List.mem_of_getElem? (i := 40) rfl)) (by decide) F605 (rm6_10 l Z a0 hw ad589 ad590_0 (ad590_0 + 1) (ad590_0 + 2) kc590_0 kc590_1 lo2 est h601 n0 F603 F604 Fc601_0) (by decide) (by decide) rfl rfl (by decide) (by decide) rfl pd_28II29J rfl rfl rfl (Nat.le_of_ble_eq_true rfl) rfl rfl ?_
          refine OwnW.lload (pc' := 157) at_155 rfl rfl ?_
          refine OwnW.lcmp (pc' := 158) at_157 rfl ?_
          refine OwnW.ifcN (pc' := 161) at_158 ((if0 _ _).trans (teq ((lw_eq _ _).mpr rfl)).2) rfl ?_
          refine OwnW.aload (pc' := 163) at_161 rfl (rfl) rfl ?_
          refine OwnW.iload (pc' := 165) at_163 rfl rfl ?_
          refine OwnW.iload (pc' := 167) at_165 rfl rfl ?_
          refine OwnW.callV0 (a0 := a0) (pc' := 170) (W := 0) (k' := 10) (n' := 21) (argsL := [(.int (1 : Int32)), (.int (0 : Int32))]) (rest := []) (St' := [(.long (f7_10 ad589 ad590_1 (ad590_1 + 1) (ad590_1 + 2) kc590_2 kc590_3 up2 (9223372036854775807 : Int64)))]) at_167 (hw _ (List.mem_of_getElem? (i := 41) rfl)) (hw _ (List.mem_of_getElem? (i := 42) rfl)) (hw _ (List.mem_of_getElem? (i := 44) rfl)) (hw _ (List.mem_of_getElem? (i := 43) rfl)) (hw _ (List.mem_of_getElem? (i := 2) rfl)) (hw _ (List.mem_of_getElem? (i := 45) rfl)) (by decide) F605 (rm7_10 l Z a0 hw ad589 ad590_1 (ad590_1 + 1) (ad590_1 + 2) kc590_2 kc590_3 up2 (9223372036854775807 : Int64) h601 n0 F606 F607 Fc601_1) (by decide) (by decide) rfl rfl (by decide) (by decide) rfl pd_28II29J rfl rfl rfl (Nat.le_of_ble_eq_true rfl) rfl rfl ?_
          refine OwnW.lload (pc' := 172) at_170 rfl rfl ?_
          refine OwnW.lcmp (pc' := 173) at_172 rfl ?_
          refine OwnW.ifcN (pc' := 176) at_173 ((if0 _ _).trans (teq ((lw_eq _ _).mpr rfl)).2) rfl ?_
          refine OwnW.iconst (pc' := 177) (v := (1 : Int32)) at_176 rfl rfl ?_
          refine OwnW.goto (pc' := 181) at_177 (by decide) (by decide) ?_
          exact OwnW.retN (t := .boolean) at_181 rfl (by simp) rfl (by decide) (by decide) (rfl)
        ·
          refine OwnW.ifcN (pc' := 79) at_76 ((if0 _ _).trans (feq hc76).1) rfl ?_
          refine OwnW.aload (pc' := 81) at_79 rfl (rfl) rfl ?_
          refine OwnW.iload (pc' := 83) at_81 rfl rfl ?_
          refine OwnW.iload (pc' := 85) at_83 rfl rfl ?_
          refine OwnW.lloadN (pc' := 86) at_85 rfl rfl ?_
          refine OwnW.lload (pc' := 88) at_86 rfl rfl ?_
          refine OwnW.aconstNull (pc' := 89) at_88 rfl ?_
          refine OwnW.callV (a0 := a0) (pc' := 92) (W := 0) (k' := 10) (n' := 21) (argsL := [(.int (1 : Int32)), (.int (1 : Int32)), (.long lo1), (.long up1), .null]) (rest := []) at_89 (hw _ (List.mem_of_getElem? (i := 26) rfl)) (hw _ (List.mem_of_getElem? (i := 27) rfl)) (hw _ (List.mem_of_getElem? (i := 29) rfl)) (hw _ (List.mem_of_getElem? (i := 28) rfl)) (hw _ (List.mem_of_getElem? (i := 2) rfl)) (hw _ (List.mem_of_getElem? (i := 30) rfl)) (by decide) Fc590_0 (rm4_11 l Z a0 hw ad589 lo1 up1 ad590_0 (ad590_0 + 1) (ad590_0 + 2) kc590_0 kc590_1 (0 : Int64) (0 : Int64) ad590_1 (ad590_1 + 1) (ad590_1 + 2) kc590_2 kc590_3 (9223372036854775807 : Int64) (9223372036854775807 : Int64) ad590_2 (ad590_2 + 1) (ad590_2 + 2) kc590_4 kc590_5 h590 n0 sz591 (Nat.le_trans ge_ad590_0 (Nat.le_add_right _ _)) (Nat.le_trans ge_ad590_1 (Nat.le_add_right _ _)) (Nat.le_trans ge_ad590_2 (Nat.le_add_right _ _)) Fc590_0 Fc590_1 Fc590_4 Fc590_6 Fc590_2 Fc590_7 Fc590_9 Fc590_3 Fc590_10 Fc590_12 (by omega : @Ne Nat (ad590_0 + 2) ad590_1) (by omega : @Ne Nat (ad590_0 + 2) (ad590_1 + 2)) (by omega : @Ne Nat (ad590_0 + 2) ad590_2) (by omega : @Ne Nat (ad590_0 + 2) (ad590_2 + 2)) (by omega : @Ne Nat (ad590_0 + 2) ad589) (by omega : @Ne Nat (ad590_0 + 2) ad590_0) (by omega : @Ne Nat (ad590_1 + 2) ad590_2) (by omega : @Ne Nat (ad590_1 + 2) (ad590_2 + 2)) (by omega : @Ne Nat (ad590_1 + 2) ad589) (by omega : @Ne Nat (ad590_1 + 2) ad590_0) (by omega : @Ne Nat (ad590_1 + 2) ad590_1) (by omega : @Ne Nat (ad590_2 + 2) ad589) (by omega : @Ne Nat (ad590_2 + 2) ad590_0) (by omega : @Ne Nat (ad590_2 + 2) ad590_1) (by omega : @Ne Nat (ad590_2 + 2) ad590_2)) (by decide) (by decide) rfl rfl (by decide) (by decide) rfl pd_28IIJJLcom2fexample2fparley2fparley2ftreesearch2fSubtreeAssignment3b29V rfl rfl rfl (Nat.le_of_ble_eq_true rfl) rfl ?_
          rintro h608 v608 ⟨rfl, K608, Fc608_0, Fc608_1, Fc608_2⟩
          have sz609 : n0 ≤ h608.size := Nat.le_trans sz591 K608.1
          show GoB0 l Z n0 OwnW.One1 h608 10 21 92 #[.val (.int sel), .val (.long est), .second, .val (.long lo1), .second, .val (.long up1), .second, .val (.long lo2), .second, .val (.long up2), .second, .val (.int (1 : Int32)), .val (.int (1 : Int32)), .val (.int (3 : Int32)), .val (.int (2 : Int32)), .val (.int (1 : Int32)), .val (.int (0 : Int32)), .val (.int sb), .val (.ref ad589)] []
          refine OwnW.aload (pc' := 94) at_92 rfl (rfl) rfl ?_
          refine OwnW.iload (pc' := 96) at_94 rfl rfl ?_
          refine OwnW.iload (pc' := 98) at_96 rfl rfl ?_
          refine OwnW.lload (pc' := 100) at_98 rfl rfl ?_
          refine OwnW.lload (pc' := 102) at_100 rfl rfl ?_
          refine OwnW.aconstNull (pc' := 103) at_102 rfl ?_
          have F610 := (Fc590_0.keep K608)
          have F611 := (Fc590_1.keep K608 (ninS (by omega : @Ne Nat ad589 (ad590_0 + 2)) (ninS (by omega : @Ne Nat ad589 (ad590_1 + 2)) (ninS (by omega : @Ne Nat ad589 (ad590_2 + 2)) nin0))))
          have F612 := (Fc590_4.keep K608 (ninS (by omega : @Ne Nat ad590_0 (ad590_0 + 2)) (ninS (by omega : @Ne Nat ad590_0 (ad590_1 + 2)) (ninS (by omega : @Ne Nat ad590_0 (ad590_2 + 2)) nin0))))
          have F613 := (Fc590_2.keep K608 (ninS (by omega : @Ne Nat ad589 (ad590_0 + 2)) (ninS (by omega : @Ne Nat ad589 (ad590_1 + 2)) (ninS (by omega : @Ne Nat ad589 (ad590_2 + 2)) nin0))))
          have F614 := (Fc590_7.keep K608 (ninS (by omega : @Ne Nat ad590_1 (ad590_0 + 2)) (ninS (by omega : @Ne Nat ad590_1 (ad590_1 + 2)) (ninS (by omega : @Ne Nat ad590_1 (ad590_2 + 2)) nin0))))
          have F615 := (Fc590_3.keep K608 (ninS (by omega : @Ne Nat ad589 (ad590_0 + 2)) (ninS (by omega : @Ne Nat ad589 (ad590_1 + 2)) (ninS (by omega : @Ne Nat ad589 (ad590_2 + 2)) nin0))))
          have F616 := (Fc590_10.keep K608 (ninS (by omega : @Ne Nat ad590_2 (ad590_0 + 2)) (ninS (by omega : @Ne Nat ad590_2 (ad590_1 + 2)) (ninS (by omega : @Ne Nat ad590_2 (ad590_2 + 2)) nin0))))
          refine OwnW.callV (a0 := a0) (pc' := 106) (W := 0) (k' := 10) (n' := 21) (argsL := [(.int (1 : Int32)), (.int (0 : Int32)), (.long lo2), (.long up2), .null]) (rest := []) at_103 (hw _ (List.mem_of_getElem? (i := 26) rfl)) (hw _ (List.mem_of_getElem? (i := 27) rfl)) (hw _ (List.mem_of_getElem? (i := 29) rfl)) (hw _ (List.mem_of_getElem? (i := 28) rfl)) (hw _ (List.mem_of_getElem? (i := 2) rfl)) (hw _ (List.mem_of_getElem? (i := 30) rfl)) (by decide) F610 (rm4_10 l Z a0 hw ad589 lo2 up2 ad590_0 (ad590_0 + 1) (ad590_0 + 2) kc590_0 kc590_1 (0 : Int64) lo1 ad590_1 (ad590_1 + 1) (ad590_1 + 2) kc590_2 kc590_3 (9223372036854775807 : Int64) up1 ad590_2 (ad590_2 + 1) (ad590_2 + 2) kc590_4 kc590_5 h608 n0 sz609 (Nat.le_trans ge_ad590_0 (Nat.le_add_right _ _)) (Nat.le_trans ge_ad590_1 (Nat.le_add_right _ _)) (Nat.le_trans ge_ad590_2 (Nat.le_add_right _ _)) F610 F611 F612 Fc608_0 F613 F614 Fc608_1 F615 F616 Fc608_2 (by omega : @Ne Nat (ad590_0 + 2) ad590_1) (by omega : @Ne Nat (ad590_0 + 2) (ad590_1 + 2)) (by omega : @Ne Nat (ad590_0 + 2) ad590_2) (by omega : @Ne Nat (ad590_0 + 2) (ad590_2 + 2)) (by omega : @Ne Nat (ad590_0 + 2) ad589) (by omega : @Ne Nat (ad590_0 + 2) ad590_0) (by omega : @Ne Nat (ad590_1 + 2) ad590_2) (by omega : @Ne Nat (ad590_1 + 2) (ad590_2 + 2)) (by omega : @Ne Nat (ad590_1 + 2) ad589) (by omega : @Ne Nat (ad590_1 + 2) ad590_0) (by omega : @Ne Nat (ad590_1 + 2) ad590_1) (by omega : @Ne Nat (ad590_2 + 2) ad589) (by omega : @Ne Nat (ad590_2 + 2) ad590_0) (by omega : @Ne Nat (ad590_2 + 2) ad590_1) (by omega : @Ne Nat (ad590_2 + 2) ad590_2)) (by decide) (by decide) rfl rfl (by decide) (by decide) rfl pd_28IIJJLcom2fexample2fparley2fparley2ftreesearch2fSubtreeAssignment3b29V rfl rfl rfl (Nat.le_of_ble_eq_true rfl) rfl ?_
          rintro h617 v617 ⟨rfl, K617, Fc617_0, Fc617_1, Fc617_2⟩
          have sz618 : n0 ≤ h617.size := Nat.le_trans sz609 K617.1
          show GoB0 l Z n0 OwnW.One1 h617 10 21 106 #[.val (.int sel), .val (.long est), .second, .val (.long lo1), .second, .val (.long up1), .second, .val (.long lo2), .second, .val (.long up2), .second, .val (.int (1 : Int32)), .val (.int (1 : Int32)), .val (.int (3 : Int32)), .val (.int (2 : Int32)), .val (.int (1 : Int32)), .val (.int (0 : Int32)), .val (.int sb), .val (.ref ad589)] []
          refine OwnW.aload (pc' := 108) at_106 rfl (rfl) rfl ?_
          refine OwnW.iload (pc' := 110) at_108 rfl rfl ?_
          refine OwnW.iload (pc' := 112) at_110 rfl rfl ?_
          refine OwnW.lloadN (pc' := 113) at_112 rfl rfl ?_
          have F619 := (F610.keep K617)
          have F620 := (F611.keep K617 (ninS (by omega : @Ne Nat ad589 (ad590_0 + 2)) (ninS (by omega : @Ne Nat ad589 (ad590_1 + 2)) (ninS (by omega : @Ne Nat ad589 (ad590_2 + 2)) nin0))))
          have F621 := (F612.keep K617 (ninS (by omega : @Ne Nat ad590_0 (ad590_0 + 2)) (ninS (by omega : @Ne Nat ad590_0 (ad590_1 + 2)) (ninS (by omega : @Ne Nat ad590_0 (ad590_2 + 2)) nin0))))
          have F622 := (F613.keep K617 (ninS (by omega : @Ne Nat ad589 (ad590_0 + 2)) (ninS (by omega : @Ne Nat ad589 (ad590_1 + 2)) (ninS (by omega : @Ne Nat ad589 (ad590_2 + 2)) nin0))))
          have F623 := (F614.keep K617 (ninS (by omega : @Ne Nat ad590_1 (ad590_0 + 2)) (ninS (by omega : @Ne Nat ad590_1 (ad590_1 + 2)) (ninS (by omega : @Ne Nat ad590_1 (ad590_2 + 2)) nin0))))
          have F624 := (F615.keep K617 (ninS (by omega : @Ne Nat ad589 (ad590_0 + 2)) (ninS (by omega : @Ne Nat ad589 (ad590_1 + 2)) (ninS (by omega : @Ne Nat ad589 (ad590_2 + 2)) nin0))))
          have F625 := (F616.keep K617 (ninS (by omega : @Ne Nat ad590_2 (ad590_0 + 2)) (ninS (by omega : @Ne Nat ad590_2 (ad590_1 + 2)) (ninS (by omega : @Ne Nat ad590_2 (ad590_2 + 2)) nin0))))
          refine OwnW.callV (a0 := a0) (pc' := 116) (W := 0) (k' := 10) (n' := 21) (argsL := [(.int (1 : Int32)), (.int (1 : Int32)), (.long est)]) (rest := []) at_113 (hw _ (List.mem_of_getElem? (i := 31) rfl)) (hw _ (List.mem_of_getElem? (i := 32) rfl)) (hw _ (List.mem_of_getElem? (i := 34) rfl)) (hw _ (List.mem_of_getElem? (i := 33) rfl)) (hw _ (List.mem_of_getElem? (i := 2) rfl)) (hw _ (List.mem_of_getElem? (i := 35) rfl)) (by decide) F619 (rm5_11 l Z a0 hw ad589 est ad590_0 (ad590_0 + 1) (ad590_0 + 2) kc590_0 kc590_1 lo2 lo1 ad590_1 (ad590_1 + 1) (ad590_1 + 2) kc590_2 kc590_3 up2 up1 ad590_2 (ad590_2 + 1) (ad590_2 + 2) kc590_4 kc590_5 h617 n0 sz618 (Nat.le_trans ge_ad590_0 (Nat.le_add_right _ _)) (Nat.le_trans ge_ad590_1 (Nat.le_add_right _ _)) (Nat.le_trans ge_ad590_2 (Nat.le_add_right _ _)) F619 F620 F621 Fc617_0 F622 F623 Fc617_1 F624 F625 Fc617_2 (by omega : @Ne Nat (ad590_0 + 2) ad590_1) (by omega : @Ne Nat (ad590_0 + 2) (ad590_1 + 2)) (by omega : @Ne Nat (ad590_0 + 2) ad590_2) (by omega : @Ne Nat (ad590_0 + 2) (ad590_2 + 2)) (by omega : @Ne Nat (ad590_0 + 2) ad589) (by omega : @Ne Nat (ad590_0 + 2) ad590_0) (by omega : @Ne Nat (ad590_1 + 2) ad590_2) (by omega : @Ne Nat (ad590_1 + 2) (ad590_2 + 2)) (by omega : @Ne Nat (ad590_1 + 2) ad589) (by omega : @Ne Nat (ad590_1 + 2) ad590_0) (by omega : @Ne Nat (ad590_1 + 2) ad590_1) (by omega : @Ne Nat (ad590_2 + 2) ad589) (by omega : @Ne Nat (ad590_2 + 2) ad590_0) (by omega : @Ne Nat (ad590_2 + 2) ad590_1) (by omega : @Ne Nat (ad590_2 + 2) ad590_2)) (by decide) (by decide) rfl rfl (by decide) (by decide) rfl pd_28IIJ29V rfl rfl rfl (Nat.le_of_ble_eq_true rfl) rfl ?_
          rintro h626 v626 ⟨rfl, K626, Fc626_0, Fc626_1, Fc626_2⟩
          have sz627 : n0 ≤ h626.size := Nat.le_trans sz618 K626.1
          show GoB0 l Z n0 OwnW.One1 h626 10 21 116 #[.val (.int sel), .val (.long est), .second, .val (.long lo1), .second, .val (.long up1), .second, .val (.long lo2), .second, .val (.long up2), .second, .val (.int (1 : Int32)), .val (.int (1 : Int32)), .val (.int (3 : Int32)), .val (.int (2 : Int32)), .val (.int (1 : Int32)), .val (.int (0 : Int32)), .val (.int sb), .val (.ref ad589)] []
          refine OwnW.aload (pc' := 118) at_116 rfl (rfl) rfl ?_
          refine OwnW.iload (pc' := 120) at_118 rfl rfl ?_
          refine OwnW.iload (pc' := 122) at_120 rfl rfl ?_
          have F628 := (F620.keep K626 (ninS (by omega : @Ne Nat ad589 (ad590_0 + 2)) (ninS (by omega : @Ne Nat ad589 (ad590_1 + 2)) (ninS (by omega : @Ne Nat ad589 (ad590_2 + 2)) nin0))))
          have F629 := (F621.keep K626 (ninS (by omega : @Ne Nat ad590_0 (ad590_0 + 2)) (ninS (by omega : @Ne Nat ad590_0 (ad590_1 + 2)) (ninS (by omega : @Ne Nat ad590_0 (ad590_2 + 2)) nin0))))
          have F630 := (F619.keep K626)
          refine OwnW.callV0 (a0 := a0) (pc' := 125) (W := 0) (k' := 10) (n' := 21) (argsL := [(.int (1 : Int32)), (.int (1 : Int32))]) (rest := []) (St' := [(.long (f6_11 ad589 ad590_0 (ad590_0 + 1) (ad590_0 + 2) kc590_0 kc590_1 lo2 est))]) at_122 (hw _ (List.mem_of_getElem? (i := 36) rfl)) (hw _ (List.mem_of_getElem? (i := 37) rfl)) (hw _ (List.mem_of_getElem? (i := 39) rfl)) (hw _ (List.mem_of_getElem? (i := 38) rfl)) (hw _ (List.mem_of_getElem? (i := 2) rfl)) (hw _ (List.mem_of_getElem? (i := 40) rfl)) (by decide) F630 (rm6_11 l Z a0 hw ad589 ad590_0 (ad590_0 + 1) (ad590_0 + 2) kc590_0 kc590_1 lo2 est h626 n0 F628 F629 Fc626_0) (by decide) (by decide) rfl rfl (by decide) (by decide) rfl pd_28II29J rfl rfl rfl (Nat.le_of_ble_eq_true rfl) rfl rfl ?_
          refine OwnW.lloadN (pc' := 126) at_125 rfl rfl ?_
          refine OwnW.lcmp (pc' := 127) at_126 rfl ?_
          refine OwnW.ifcN (pc' := 130) at_127 ((if0 _ _).trans (teq ((lw_eq _ _).mpr rfl)).2) rfl ?_
          refine OwnW.aload (pc' := 132) at_130 rfl (rfl) rfl ?_
          refine OwnW.iload (pc' := 134) at_132 rfl rfl ?_
          refine OwnW.iload (pc' := 136) at_134 rfl rfl ?_
          have F631 := (F622.keep K626 (ninS (by omega : @Ne Nat ad589 (ad590_0 + 2)) (ninS (by omega : @Ne Nat ad589 (ad590_1 + 2)) (ninS (by omega : @Ne Nat ad589 (ad590_2 + 2)) nin0))))
          have F632 := (F623.keep K626 (ninS (by omega : @Ne Nat ad590_1 (ad590_0 + 2)) (ninS (by omega : @Ne Nat ad590_1 (ad590_1 + 2)) (ninS (by omega : @Ne Nat ad590_1 (ad590_2 + 2)) nin0))))
          refine OwnW.callV0 (a0 := a0) (pc' := 139) (W := 0) (k' := 10) (n' := 21) (argsL := [(.int (1 : Int32)), (.int (1 : Int32))]) (rest := []) (St' := [(.long (f7_11 ad589 ad590_1 (ad590_1 + 1) (ad590_1 + 2) kc590_2 kc590_3 up2 (9223372036854775807 : Int64)))]) at_136 (hw _ (List.mem_of_getElem? (i := 41) rfl)) (hw _ (List.mem_of_getElem? (i := 42) rfl)) (hw _ (List.mem_of_getElem? (i := 44) rfl)) (hw _ (List.mem_of_getElem? (i := 43) rfl)) (hw _ (List.mem_of_getElem? (i := 2) rfl)) (hw _ (List.mem_of_getElem? (i := 45) rfl)) (by decide) F630 (rm7_11 l Z a0 hw ad589 ad590_1 (ad590_1 + 1) (ad590_1 + 2) kc590_2 kc590_3 up2 (9223372036854775807 : Int64) h626 n0 F631 F632 Fc626_1) (by decide) (by decide) rfl rfl (by decide) (by decide) rfl pd_28II29J rfl rfl rfl (Nat.le_of_ble_eq_true rfl) rfl rfl ?_
          refine OwnW.ldc2J (a0 := a0) (pc' := 142) (v := (9223372036854775807 : Int64)) at_139 (hw _ (List.mem_of_getElem? (i := 46) rfl)) rfl ?_
          refine OwnW.lcmp (pc' := 143) at_142 rfl ?_
          refine OwnW.ifcN (pc' := 146) at_143 ((if0 _ _).trans (teq ((lw_eq _ _).mpr rfl)).2) rfl ?_
          refine OwnW.aload (pc' := 148) at_146 rfl (rfl) rfl ?_
          refine OwnW.iload (pc' := 150) at_148 rfl rfl ?_
          refine OwnW.iload (pc' := 152) at_150 rfl rfl ?_
          refine OwnW.callV0 (a0 := a0) (pc' := 155) (W := 0) (k' := 10) (n' := 21) (argsL := [(.int (1 : Int32)), (.int (0 : Int32))]) (rest := []) (St' := [(.long (f6_10 ad589 ad590_0 (ad590_0 + 1) (ad590_0 + 2) kc590_0 kc590_1 lo2 est))]) at_152 (hw _ (List.mem_of_getElem? (i := 36) rfl)) (hw _ (List.mem_of_getElem? (i := 37) rfl)) (hw _ (List.mem_of_getElem? (i := 39) rfl)) (hw _ (List.mem_of_getElem? (i := 38) rfl)) (hw _ (List.mem_of_getElem? (i := 2) rfl)) (hw _ (List.mem_of_getElem? (i := 40) rfl)) (by decide) F630 (rm6_10 l Z a0 hw ad589 ad590_0 (ad590_0 + 1) (ad590_0 + 2) kc590_0 kc590_1 lo2 est h626 n0 F628 F629 Fc626_0) (by decide) (by decide) rfl rfl (by decide) (by decide) rfl pd_28II29J rfl rfl rfl (Nat.le_of_ble_eq_true rfl) rfl rfl ?_
          refine OwnW.lload (pc' := 157) at_155 rfl rfl ?_
          refine OwnW.lcmp (pc' := 158) at_157 rfl ?_
          refine OwnW.ifcN (pc' := 161) at_158 ((if0 _ _).trans (teq ((lw_eq _ _).mpr rfl)).2) rfl ?_
          refine OwnW.aload (pc' := 163) at_161 rfl (rfl) rfl ?_
          refine OwnW.iload (pc' := 165) at_163 rfl rfl ?_
          refine OwnW.iload (pc' := 167) at_165 rfl rfl ?_
          refine OwnW.callV0 (a0 := a0) (pc' := 170) (W := 0) (k' := 10) (n' := 21) (argsL := [(.int (1 : Int32)), (.int (0 : Int32))]) (rest := []) (St' := [(.long (f7_10 ad589 ad590_1 (ad590_1 + 1) (ad590_1 + 2) kc590_2 kc590_3 up2 (9223372036854775807 : Int64)))]) at_167 (hw _ (List.mem_of_getElem? (i := 41) rfl)) (hw _ (List.mem_of_getElem? (i := 42) rfl)) (hw _ (List.mem_of_getElem? (i := 44) rfl)) (hw _ (List.mem_of_getElem? (i := 43) rfl)) (hw _ (List.mem_of_getElem? (i := 2) rfl)) (hw _ (List.mem_of_getElem? (i := 45) rfl)) (by decide) F630 (rm7_10 l Z a0 hw ad589 ad590_1 (ad590_1 + 1) (ad590_1 + 2) kc590_2 kc590_3 up2 (9223372036854775807 : Int64) h626 n0 F631 F632 Fc626_1) (by decide) (by decide) rfl rfl (by decide) (by decide) rfl pd_28II29J rfl rfl rfl (Nat.le_of_ble_eq_true rfl) rfl rfl ?_
          refine OwnW.lload (pc' := 172) at_170 rfl rfl ?_
          refine OwnW.lcmp (pc' := 173) at_172 rfl ?_
          refine OwnW.ifcN (pc' := 176) at_173 ((if0 _ _).trans (teq ((lw_eq _ _).mpr rfl)).2) rfl ?_
          refine OwnW.iconst (pc' := 177) (v := (1 : Int32)) at_176 rfl rfl ?_
          refine OwnW.goto (pc' := 181) at_177 (by decide) (by decide) ?_
          exact OwnW.retN (t := .boolean) at_181 rfl (by simp) rfl (by decide) (by decide) (rfl)
set_option maxRecDepth 65536 in
set_option maxHeartbeats 400000000 in
theorem comes_1 {Post : Tables → Env → Array Value → State → Outcome → State → Prop} (hpost : ∀ tb e args s v u, (limb_1_1.after args s (.returned v) u = true ∧ limb_1_2.after args s (.returned v) u = true ∧ True) → FrameEnd s (.returned v) u (Jvm.fieldLocs frame_1_writes args s ++ Jvm.arrayLocs frame_1_arrays args s ++ Jvm.staticLocs frame_1_statics s) 32 128 → Post tb e args s (.returned v) u) :
    ArmFor flags0 classFile x code maxLocals ret World_1 tables_1 room_1 Calls_1 rest_1 Pre_1 Post := by
  intro l hfl _ _ p e ha hc hk s m args below hf hA hF happ hP
  obtain ⟨hcalls, hrest, hpre⟩ := hP
  obtain ⟨-, -, -, hnamed, -, -, -, hat⟩ := (Spec.applies_iff hf).mp happ
  obtain ⟨hg, hn⟩ := and_e (Cond.before_iff.mp (show (Jvm.Cond.and given_1 narrow_1).before args s = true from hpre))
  obtain ⟨hcount, hr0⟩ := and_e hg
  obtain ⟨w0, w1, w2, w3, w4, w5, rfl⟩ : ∃ w0 w1 w2 w3 w4 w5 : Value, args = #[w0, w1, w2, w3, w4, w5] := by
    have hs : args.size = 6 := by simpa [Cond.value, given_1] using hcount
    obtain ⟨L⟩ := args
    match L, hs with
    | [w0, w1, w2, w3, w4, w5], _ => exact ⟨w0, w1, w2, w3, w4, w5, rfl⟩
  have hw := fun d (hd : d ∈ tables_1) => atoms_spec (ws := Jvm.Cond.code x code maxLocals ret :: tables_1) hat d (List.mem_cons_of_mem _ hd)
  have hfit : Fit s := fun {y c} hc i hi => by
    obtain ⟨ha, rfl⟩ := Array.getElem?_eq_some_iff.mp hc
    have q := List.all_eq_true.mp ((Array.all_eq_true_iff_forall_mem.mp hF) _ (Array.getElem_mem ha)) i (List.mem_range.mpr hi)
    simpa [Array.getElem?_eq_getElem hi] using q
  obtain ⟨hq0, hr1⟩ := and_e hr0
  obtain ⟨i0, ei0⟩ := is_v hq0
  obtain rfl : w0 = (.int i0) := Option.some.inj ei0
  obtain ⟨hq1, hr2⟩ := and_e hr1
  obtain ⟨i1, ei1⟩ := isL_v hq1
  obtain rfl : w1 = (.long i1) := Option.some.inj ei1
  obtain ⟨hq2, hr3⟩ := and_e hr2
  obtain ⟨i2, ei2⟩ := isL_v hq2
  obtain rfl : w2 = (.long i2) := Option.some.inj ei2
  obtain ⟨hq3, hr4⟩ := and_e hr3
  obtain ⟨i3, ei3⟩ := isL_v hq3
  obtain rfl : w3 = (.long i3) := Option.some.inj ei3
  obtain ⟨hq4, hr5⟩ := and_e hr4
  obtain ⟨i4, ei4⟩ := isL_v hq4
  obtain rfl : w4 = (.long i4) := Option.some.inj ei4
  obtain ⟨i5, ei5⟩ := isL_v hr5
  obtain rfl : w5 = (.long i5) := Option.some.inj ei5
  obtain ⟨n, o, h1, h2, h3, _, L, rfl, ⟨rfl, N⟩, hq⟩ := rm0 l s _ hw i0 i1 i2 i3 i4 i5 s.heap s.heap.size (Nat.le_refl _) tables_1 p e ha hc hk s m _ below hf ((Spec.applies_iff_loose hf).mp happ).1 ⟨rfl, State.Warmed39.refl s, rfl⟩ trivial
  refine ⟨n, _, h1, h2, h3, hpost _ _ _ _ _ _ ⟨Cond.after_iff.mpr rfl, Cond.after_iff.mpr (eq_i res_at (Term.int_eval (1)) rfl), trivial⟩ ⟨hq.1, hq.2.1, (hq.2.2.sift fun y hy => Or.inr (N y hy)).mono (by decide) (by decide)⟩⟩
theorem main_1_1 : Claimed_1_1 := comes_1 fun _ _ _ _ _ _ h hF => ⟨h.1, hF⟩
theorem main_1_2 : Claimed_1_2 := comes_1 fun _ _ _ _ _ _ h hF => ⟨h.2.1, hF⟩
end Jvm.Pilot.@@N@@
namespace Jvm.Pilot.@@N@@
open Jvm Jvm.ClassFile Sem Op Lib Jvm.Free Jvm.Stand Jvm.Pilot.@@N@@.Jvm.D
/-! MADE BY PROGRAM (witnessworld.py) out of the Statement's table words and the real class files: 15 classes; the members and pool entries that the words name. The judged class is class 1, her method 1. -/
namespace start1
open Jvm.ClassFile
def u (s : String) : CpInfo := .utf8 (stringToUtf16 s)
/-- a pool by its gaps: so many unusable entries, then the entry; so many at the end -/
def gap : Nat → List CpInfo → List CpInfo
  | 0, r => r
  | n + 1, r => .unusable :: gap n r
def poolList (es : List (Nat × CpInfo)) (last : Nat) : List CpInfo := es.foldr (fun e r => gap e.1 (e.2 :: r)) (gap last [])
def pool (es : List (Nat × CpInfo)) (last : Nat) : Array CpInfo := ⟨poolList es last⟩
def fileOf (pool : Array CpInfo) (this : Nat) (attrs : Array Attribute := #[]) (ms : Array MethodInfo := #[]) (fl : Nat := 33) (sup : Nat := 0) (ifs : Array Nat := #[]) (fds : Array FieldInfo := #[]) : ClassFile where
  minorVersion := 0
  majorVersion := 65
  constantPool := pool
  accessFlags := fl
  thisClass := this
  superClass := sup
  interfaces := ifs
  fields := fds
  methods := ms
  attributes := attrs
def plain (name : String) (sup : Option ClassId) : Class where
  name := name
  kind := .ordinary
  loader := none
  accessFlags := 33
  super := sup
  interfaces := #[]
  cf := none
  fields := #[]
  methods := #[]
  instanceTypes := #[]
  staticTypes := #[]
  resolved := #[]
  callSites := []
  init := .initialized
  statics := none
  mirror := none

def pool0 : Array CpInfo := pool [(5, u "<init>"), (0, u "()V"), (1, .class_ 10), (1, u "java/lang/Object")] 113

def k0c0 : Code := { maxStack := 0, maxLocals := 1, code := object_method_1_code, exceptionTable := #[], attributes := #[] }
def k0m0 : Method := { name := "<init>", desc := "()V", sig := { parameters := [], returnType := none }, accessFlags := 1, code := some k0c0 }
/-- java/lang/Object -/
def k0 : Class := { plain "java/lang/Object" none with
  accessFlags := 33
  interfaces := #[]
  cf := some (fileOf pool0 8 #[] #[{ accessFlags := 1, nameIndex := 5, descriptorIndex := 6, attributes := #[] }] 33 0 #[] #[])
  fields := #[]
  methods := #[k0m0]
  instanceTypes := #[]
  staticTypes := #[]
  resolved := Array.replicate 124 none
  statics := none }

def pool1 : Array CpInfo := pool [(2, .class_ 4), (1, u "java/lang/Object"), (0, u "<init>"), (0, u "()V"), (0, .class_ 8), (0, u "com/example/parley/parley/treesearch/ChildBounds"), (0, .methodref 7 10), (0, .nameAndType 5 11), (0, u "(II)V"), (0, .methodref 7 13), (0, .nameAndType 14 15), (0, u "take"), (0, u "(IIJJLcom/example/parley/parley/treesearch/SubtreeAssignment;)V"), (0, .methodref 7 17), (0, .nameAndType 18 19), (0, u "reset"), (0, u "(IIJ)V"), (0, .methodref 7 21), (0, .nameAndType 22 23), (0, u "lower"), (0, u "(II)J"), (0, .methodref 7 25), (0, .nameAndType 26 23), (0, u "upper"), (2, .long 9223372036854775807), (1, .class_ 32), (0, u "com/example/parley/parley/treesearch/ChildBoundsResetPinLaw"), (2, u "law"), (0, u "(IJJJJJ)Z")] 3

def k1m0 : Method := { name := "<init>", desc := "()V", sig := { parameters := [], returnType := none }, accessFlags := 2, code := none }
def k1c1 : Code := { maxStack := 8, maxLocals := 19, code := code, exceptionTable := #[], attributes := #[] }
def k1m1 : Method := { name := "law", desc := "(IJJJJJ)Z", sig := { parameters := [.int, .long, .long, .long, .long, .long], returnType := some .boolean }, accessFlags := 9, code := some k1c1 }
/-- com/example/parley/parley/treesearch/ChildBoundsResetPinLaw -/
def k1 : Class := { plain "com/example/parley/parley/treesearch/ChildBoundsResetPinLaw" (some 0) with
  accessFlags := 49
  interfaces := #[]
  cf := some (fileOf pool1 31 #[] #[{ accessFlags := 2, nameIndex := 5, descriptorIndex := 6, attributes := #[] }, { accessFlags := 9, nameIndex := 35, descriptorIndex := 36, attributes := #[] }] 49 2 #[] #[])
  fields := #[]
  methods := #[k1m0, k1m1]
  instanceTypes := #[]
  staticTypes := #[]
  resolved := Array.replicate 40 none
  statics := none }

def pool2 : Array CpInfo := pool [(1, .methodref 2 3), (0, .class_ 4), (0, .nameAndType 5 6), (0, u "java/lang/Object"), (0, u "<init>"), (0, u "()V"), (0, .class_ 8), (0, u "[[J"), (0, .fieldref 10 11), (0, .class_ 12), (0, .nameAndType 13 8), (0, u "com/example/parley/parley/treesearch/ChildBounds"), (0, u "lower"), (0, .fieldref 10 15), (0, .nameAndType 16 8), (0, u "upper"), (0, .class_ 18), (0, u "[[Lcom/example/parley/parley/treesearch/SubtreeAssignment;"), (0, .fieldref 10 20), (0, .nameAndType 21 18), (0, u "assignments"), (2, .long 9223372036854775807), (1, .methodref 27 28), (0, .class_ 29), (0, .nameAndType 30 31), (0, u "java/util/Arrays"), (0, u "fill"), (0, u "([JJ)V"), (28, u "(II)V"), (3, u "reset"), (0, u "(IIJ)V"), (0, u "take"), (0, u "(IIJJLcom/example/parley/parley/treesearch/SubtreeAssignment;)V"), (1, u "(II)J")] 7

def k2c0 : Code := { maxStack := 3, maxLocals := 7, code := prog_60_method_1_code, exceptionTable := #[], attributes := #[] }
def k2m0 : Method := { name := "<init>", desc := "(II)V", sig := { parameters := [.int, .int], returnType := none }, accessFlags := 1, code := some k2c0 }
def k2c1 : Code := { maxStack := 4, maxLocals := 5, code := prog_60_method_2_code, exceptionTable := #[], attributes := #[] }
def k2m1 : Method := { name := "reset", desc := "(IIJ)V", sig := { parameters := [.int, .int, .long], returnType := none }, accessFlags := 1, code := some k2c1 }
def k2c2 : Code := { maxStack := 4, maxLocals := 8, code := prog_60_method_3_code, exceptionTable := #[], attributes := #[] }
def k2m2 : Method := { name := "take", desc := "(IIJJLcom/example/parley/parley/treesearch/SubtreeAssignment;)V", sig := { parameters := [.int, .int, .long, .long, (.object "com/example/parley/parley/treesearch/SubtreeAssignment")], returnType := none }, accessFlags := 1, code := some k2c2 }
def k2c3 : Code := { maxStack := 2, maxLocals := 3, code := prog_60_method_5_code, exceptionTable := #[], attributes := #[] }
def k2m3 : Method := { name := "lower", desc := "(II)J", sig := { parameters := [.int, .int], returnType := some .long }, accessFlags := 1, code := some k2c3 }
def k2c4 : Code := { maxStack := 2, maxLocals := 3, code := prog_60_method_6_code, exceptionTable := #[], attributes := #[] }
def k2m4 : Method := { name := "upper", desc := "(II)J", sig := { parameters := [.int, .int], returnType := some .long }, accessFlags := 1, code := some k2c4 }
/-- com/example/parley/parley/treesearch/ChildBounds -/
def k2 : Class := { plain "com/example/parley/parley/treesearch/ChildBounds" (some 0) with
  accessFlags := 49
  interfaces := #[]
  cf := some (fileOf pool2 10 #[] #[{ accessFlags := 1, nameIndex := 5, descriptorIndex := 60, attributes := #[] }, { accessFlags := 1, nameIndex := 64, descriptorIndex := 65, attributes := #[] }, { accessFlags := 1, nameIndex := 66, descriptorIndex := 67, attributes := #[] }, { accessFlags := 1, nameIndex := 13, descriptorIndex := 69, attributes := #[] }, { accessFlags := 1, nameIndex := 16, descriptorIndex := 69, attributes := #[] }] 49 2 #[] #[{ accessFlags := 18, nameIndex := 13, descriptorIndex := 8, attributes := #[] }, { accessFlags := 18, nameIndex := 16, descriptorIndex := 8, attributes := #[] }, { accessFlags := 18, nameIndex := 21, descriptorIndex := 18, attributes := #[] }])
  fields := #[{ name := "lower", type := (.array (.array .long)), accessFlags := 18, slot := 0, constantValue := 0 }, { name := "upper", type := (.array (.array .long)), accessFlags := 18, slot := 1, constantValue := 0 }, { name := "assignments", type := (.array (.array (.object "com/example/parley/parley/treesearch/SubtreeAssignment"))), accessFlags := 18, slot := 2, constantValue := 0 }]
  methods := #[k2m0, k2m1, k2m2, k2m3, k2m4]
  instanceTypes := #[(.array (.array .long)), (.array (.array .long)), (.array (.array (.object "com/example/parley/parley/treesearch/SubtreeAssignment")))]
  staticTypes := #[]
  resolved := Array.replicate 77 none
  statics := none }

def pool3 : Array CpInfo := pool [(2, .class_ 4), (1, u "java/lang/Object"), (0, u "<init>"), (0, u "()V"), (7, .class_ 16), (1, u "java/util/Arrays"), (57, .class_ 76), (1, u "java/util/Arrays$NaturalOrder"), (36, .class_ 115), (1, u "java/util/Arrays$LegacyMergeSort"), (1, u "Z"), (257, .class_ 376), (0, u "java/util/Arrays$ArrayList"), (68, u "$assertionsDisabled"), (269, u "MIN_ARRAY_SORT_GRAN"), (0, u "I"), (2, u "INSERTIONSORT_THRESHOLD"), (120, u "fill"), (0, u "([JJ)V"), (133, .class_ 976), (0, u "java/util/Arrays$ArrayItr")] 52

def k3m0 : Method := { name := "<init>", desc := "()V", sig := { parameters := [], returnType := none }, accessFlags := 2, code := none }
def k3c1 : Code := { maxStack := 4, maxLocals := 5, code := jdk_65_method_101_code, exceptionTable := #[], attributes := #[] }
def k3m1 : Method := { name := "fill", desc := "([JJ)V", sig := { parameters := [(.array .long), .long], returnType := none }, accessFlags := 9, code := some k3c1 }
/-- java/util/Arrays -/
def k3 : Class := { plain "java/util/Arrays" (some 0) with
  accessFlags := 49
  interfaces := #[]
  cf := some (fileOf pool3 14 #[.nestMembers #[975, 375, 113, 74]] #[{ accessFlags := 2, nameIndex := 5, descriptorIndex := 6, attributes := #[] }, { accessFlags := 9, nameIndex := 840, descriptorIndex := 841, attributes := #[] }] 49 2 #[] #[{ accessFlags := 26, nameIndex := 715, descriptorIndex := 716, attributes := #[] }, { accessFlags := 26, nameIndex := 719, descriptorIndex := 716, attributes := #[] }, { accessFlags := 4120, nameIndex := 445, descriptorIndex := 117, attributes := #[] }])
  fields := #[{ name := "MIN_ARRAY_SORT_GRAN", type := .int, accessFlags := 26, slot := 0, constantValue := 0 }, { name := "INSERTIONSORT_THRESHOLD", type := .int, accessFlags := 26, slot := 1, constantValue := 0 }, { name := "$assertionsDisabled", type := .boolean, accessFlags := 4120, slot := 2, constantValue := 0 }]
  methods := #[k3m0, k3m1]
  instanceTypes := #[]
  staticTypes := #[.int, .int, .boolean]
  resolved := Array.replicate 1029 none
  statics := none }

def pool4 : Array CpInfo := pool [(2, .class_ 4), (1, u "java/lang/Object"), (0, u "<init>"), (0, u "()V"), (0, .class_ 8), (0, u "java/lang/Record")] 13

def k4m0 : Method := { name := "<init>", desc := "()V", sig := { parameters := [], returnType := none }, accessFlags := 4, code := none }
/-- java/lang/Record -/
def k4 : Class := { plain "java/lang/Record" (some 0) with
  accessFlags := 1057
  interfaces := #[]
  cf := some (fileOf pool4 7 #[] #[{ accessFlags := 4, nameIndex := 5, descriptorIndex := 6, attributes := #[] }] 1057 2 #[] #[])
  fields := #[]
  methods := #[k4m0]
  instanceTypes := #[]
  staticTypes := #[]
  resolved := Array.replicate 22 none
  statics := none }

def pool5 : Array CpInfo := pool [(2, .class_ 4), (1, u "java/lang/Record"), (9, .class_ 16), (1, u "com/example/parley/parley/treesearch/SubtreeAssignment"), (0, u "variable"), (0, u "I"), (2, u "value"), (2, u "below"), (0, u "Ljava/util/List;")] 78

/-- com/example/parley/parley/treesearch/SubtreeAssignment -/
def k5 : Class := { plain "com/example/parley/parley/treesearch/SubtreeAssignment" (some 4) with
  accessFlags := 49
  interfaces := #[]
  cf := some (fileOf pool5 14 #[] #[] 49 2 #[] #[{ accessFlags := 18, nameIndex := 17, descriptorIndex := 18, attributes := #[] }, { accessFlags := 18, nameIndex := 21, descriptorIndex := 18, attributes := #[] }, { accessFlags := 18, nameIndex := 24, descriptorIndex := 25, attributes := #[] }])
  fields := #[{ name := "variable", type := .int, accessFlags := 18, slot := 0, constantValue := 0 }, { name := "value", type := .int, accessFlags := 18, slot := 1, constantValue := 0 }, { name := "below", type := (.object "java/util/List"), accessFlags := 18, slot := 2, constantValue := 0 }]
  methods := #[]
  instanceTypes := #[.int, .int, (.object "java/util/List")]
  staticTypes := #[]
  resolved := Array.replicate 104 none
  statics := none }

def pool6 : Array CpInfo := pool [(1, u "java/lang/Cloneable"), (0, .class_ 1), (0, u "java/lang/Object"), (0, .class_ 3)] 3

/-- java/lang/Cloneable -/
def k6 : Class := { plain "java/lang/Cloneable" (some 0) with
  accessFlags := 1537
  interfaces := #[]
  cf := some (fileOf pool6 2 #[] #[] 1537 4 #[] #[])
  fields := #[]
  methods := #[]
  instanceTypes := #[]
  staticTypes := #[]
  resolved := Array.replicate 8 none
  statics := none }

def pool7 : Array CpInfo := pool [(1, u "java/io/Serializable"), (0, .class_ 1), (0, u "java/lang/Object"), (0, .class_ 3)] 3

/-- java/io/Serializable -/
def k7 : Class := { plain "java/io/Serializable" (some 0) with
  accessFlags := 1537
  interfaces := #[]
  cf := some (fileOf pool7 2 #[] #[] 1537 4 #[] #[])
  fields := #[]
  methods := #[]
  instanceTypes := #[]
  staticTypes := #[]
  resolved := Array.replicate 8 none
  statics := none }

/-- the primitive byte -/
def k8 : Class := { plain "byte" none with kind := .primitive 'B', accessFlags := 0x411 }
/-- [B -/
def k9 : Class := { plain "[B" (some 0) with kind := .array 8 .byte, interfaces := #[6, 7], accessFlags := 1041 }

/-- the primitive int -/
def k10 : Class := { plain "int" none with kind := .primitive 'I', accessFlags := 0x411 }
/-- [I -/
def k11 : Class := { plain "[I" (some 0) with kind := .array 10 .int, interfaces := #[6, 7], accessFlags := 1041 }

/-- the primitive long -/
def k12 : Class := { plain "long" none with kind := .primitive 'J', accessFlags := 0x411 }
/-- [J -/
def k13 : Class := { plain "[J" (some 0) with kind := .array 12 .long, interfaces := #[6, 7], accessFlags := 1041 }

/-- [Lcom/example/parley/parley/treesearch/SubtreeAssignment; -/
def k14 : Class := { plain "[Lcom/example/parley/parley/treesearch/SubtreeAssignment;" (some 0) with kind := .array 5 (.object "com/example/parley/parley/treesearch/SubtreeAssignment"), interfaces := #[6, 7], accessFlags := 1041 }

/-- [[J -/
def k15 : Class := { plain "[[J" (some 0) with kind := .array 13 (.array .long), interfaces := #[6, 7], accessFlags := 1041 }
/-- [[Lcom/example/parley/parley/treesearch/SubtreeAssignment; -/
def k16 : Class := { plain "[[Lcom/example/parley/parley/treesearch/SubtreeAssignment;" (some 0) with kind := .array 14 (.array (.object "com/example/parley/parley/treesearch/SubtreeAssignment")), interfaces := #[6, 7], accessFlags := 1041 }
def heap : Heap := #[]
def classes : Array Class := #[k0, k1, k2, k3, k4, k5, k6, k7, k8, k9, k10, k11, k12, k13, k14, k15, k16]
def interned : List (Array UInt16 × Addr) := []
def slotsUsed : Nat := 0
def theMethod : MethodId := ⟨1, 1⟩
def args0 : Array Value := #[.int 1, .long 1, .long 2, .long 3, .long 4, .long 5]
def aboutOver (below : List Frame) : State where
  vm := { classes := classes, interned := interned.toArray }
  heap := heap
  slotsUsed := slotsUsed
  threads := #[{ frames := .invoking theMethod args0 :: below }]
def below0 : List Frame := [.native { method := ⟨0, 0⟩, args := #[] }]
def about1 : State := aboutOver below0
def p0 : Program := .bare "" "" ""
def e0 : Env := launch0.env 0 0 0
theorem w_frames : about1.frames = Frame.invoking theMethod args0 :: below0 := rfl
set_option maxRecDepth 65536 in
theorem w_args : argsFit about1.vm theMethod args0 = true := by decide +kernel
set_option maxRecDepth 65536 in
theorem w_heap : heapFits about1 = true := by decide +kernel
set_option maxRecDepth 65536 in
theorem w_runnable : about1.curStatus? = some .runnable := by decide +kernel
set_option maxRecDepth 65536 in
theorem w_alone : about1.alone = true := by decide +kernel
set_option maxRecDepth 65536 in
theorem w_named : about1.methodNamed? x = some theMethod := by decide +kernel
set_option maxRecDepth 65536 in
theorem w_hears : about1.hears theMethod below0 = true := by decide +kernel
set_option maxRecDepth 65536 in
theorem w_ripe : about1.ripe theMethod args0 below0 = true := by decide +kernel
theorem w_running : about1.status = .running := rfl
set_option maxRecDepth 65536 in
theorem w_room : about1.hasRoom e0.platform room_1 = true :=
  launch0.hasRoom_least _ room_1 (by decide +kernel) (by decide +kernel) (by decide +kernel) (by decide +kernel) (by decide +kernel) (by decide +kernel)
theorem allAtoms_all (ts : List Jvm.Cond) (a : Array Jvm.Value) (st : Jvm.State) : (allAtoms ts).before a st = ts.all (fun c => c.before a st) := by
  induction ts with
  | nil => rfl
  | cons c t ih =>
    show (Jvm.Cond.and c (allAtoms t)).before a st = _
    rw [Jvm.Cond.before_and, ih, List.all_cons]
def words1 : List Jvm.Cond := Jvm.Cond.code x code maxLocals ret :: tables_1
/-- a 'code' word, met by the world's own term for the bytes: nothing is compared byte by byte -/
theorem code_word {y : MethodName} {bytes : ByteArray} {mx : Nat} {rt : Option FieldType} {a : Array Value} {s : State} {m : MethodId} {meth : Method} {c : Code} (h1 : s.methodNamed? y = some m) (h2 : s.vm.method? m = some meth) (h3 : meth.code = some c) (h4 : c.code = bytes)
    (h5 : (c.maxLocals == mx && c.exceptionTable.isEmpty && decide (c.maxStack ≤ mostOperands) && decide (meth.sig.returnType = rt) && !meth.locks && decide (parseMethodDescriptor y.desc = some meth.sig)) = true) : (Jvm.Cond.code y bytes mx rt).before a s = true := by
  simp only [Bool.and_eq_true, beq_iff_eq, Bool.not_eq_true', decide_eq_true_eq] at h5
  obtain ⟨⟨⟨⟨⟨g1, g2⟩, g3⟩, g4⟩, g5⟩, g6⟩ := h5
  simp [Cond.before, Cond.holds, Cond.value, h1, h2, h3, h4, g1, g2, g3, g4, g5, g6]
def isCode : Jvm.Cond → Bool
  | .code _ _ _ _ => true
  | _ => false
theorem all_split {L : List Jvm.Cond} {P : Jvm.Cond → Bool} (h1 : L.all (fun c => isCode c || P c) = true) (h2 : ∀ c ∈ L.filter isCode, P c = true) : L.all P = true := by
  refine List.all_eq_true.mpr fun c hc => ?_
  have h := List.all_eq_true.mp h1 c hc
  rcases Bool.eq_false_or_eq_true (isCode c) with hi | hi
  · exact h2 c (List.mem_filter.mpr ⟨hc, hi⟩)
  · simpa [hi] using h
set_option maxRecDepth 65536 in
theorem w_c0 : (Jvm.Cond.code x code maxLocals ret).before args0 about1 = true := code_word (m := ⟨1, 1⟩) (meth := k1m1) (c := k1c1) (by decide +kernel) rfl rfl rfl (by decide +kernel)
set_option maxRecDepth 65536 in
theorem w_c1 : (Jvm.Cond.code ({ cls := "com/example/parley/parley/treesearch/ChildBounds", name := "<init>", desc := "(II)V" } : Jvm.MethodName) prog_60_method_1_code (7 : Nat) (Option.none : Option Jvm.ClassFile.FieldType)).before args0 about1 = true := code_word (m := ⟨2, 0⟩) (meth := k2m0) (c := k2c0) (by decide +kernel) rfl rfl rfl (by decide +kernel)
set_option maxRecDepth 65536 in
theorem w_c2 : (Jvm.Cond.code ({ cls := "java/lang/Object", name := "<init>", desc := "()V" } : Jvm.MethodName) object_method_1_code (1 : Nat) (Option.none : Option Jvm.ClassFile.FieldType)).before args0 about1 = true := code_word (m := ⟨0, 0⟩) (meth := k0m0) (c := k0c0) (by decide +kernel) rfl rfl rfl (by decide +kernel)
set_option maxRecDepth 65536 in
theorem w_c3 : (Jvm.Cond.code ({ cls := "java/util/Arrays", name := "fill", desc := "([JJ)V" } : Jvm.MethodName) jdk_65_method_101_code (5 : Nat) (Option.none : Option Jvm.ClassFile.FieldType)).before args0 about1 = true := code_word (m := ⟨3, 1⟩) (meth := k3m1) (c := k3c1) (by decide +kernel) rfl rfl rfl (by decide +kernel)
set_option maxRecDepth 65536 in
theorem w_c4 : (Jvm.Cond.code ({ cls := "com/example/parley/parley/treesearch/ChildBounds", name := "take", desc := "(IIJJLcom/example/parley/parley/treesearch/SubtreeAssignment;)V" } : Jvm.MethodName) prog_60_method_3_code (8 : Nat) (Option.none : Option Jvm.ClassFile.FieldType)).before args0 about1 = true := code_word (m := ⟨2, 2⟩) (meth := k2m2) (c := k2c2) (by decide +kernel) rfl rfl rfl (by decide +kernel)
set_option maxRecDepth 65536 in
theorem w_c5 : (Jvm.Cond.code ({ cls := "com/example/parley/parley/treesearch/ChildBounds", name := "reset", desc := "(IIJ)V" } : Jvm.MethodName) prog_60_method_2_code (5 : Nat) (Option.none : Option Jvm.ClassFile.FieldType)).before args0 about1 = true := code_word (m := ⟨2, 1⟩) (meth := k2m1) (c := k2c1) (by decide +kernel) rfl rfl rfl (by decide +kernel)
set_option maxRecDepth 65536 in
theorem w_c6 : (Jvm.Cond.code ({ cls := "com/example/parley/parley/treesearch/ChildBounds", name := "lower", desc := "(II)J" } : Jvm.MethodName) prog_60_method_5_code (3 : Nat) (Option.some Jvm.ClassFile.FieldType.long)).before args0 about1 = true := code_word (m := ⟨2, 3⟩) (meth := k2m3) (c := k2c3) (by decide +kernel) rfl rfl rfl (by decide +kernel)
set_option maxRecDepth 65536 in
theorem w_c7 : (Jvm.Cond.code ({ cls := "com/example/parley/parley/treesearch/ChildBounds", name := "upper", desc := "(II)J" } : Jvm.MethodName) prog_60_method_6_code (3 : Nat) (Option.some Jvm.ClassFile.FieldType.long)).before args0 about1 = true := code_word (m := ⟨2, 4⟩) (meth := k2m4) (c := k2c4) (by decide +kernel) rfl rfl rfl (by decide +kernel)
def codes1 : List Jvm.Cond := [Jvm.Cond.code x code maxLocals ret, Jvm.Cond.code ({ cls := "com/example/parley/parley/treesearch/ChildBounds", name := "<init>", desc := "(II)V" } : Jvm.MethodName) prog_60_method_1_code (7 : Nat) (Option.none : Option Jvm.ClassFile.FieldType), Jvm.Cond.code ({ cls := "java/lang/Object", name := "<init>", desc := "()V" } : Jvm.MethodName) object_method_1_code (1 : Nat) (Option.none : Option Jvm.ClassFile.FieldType), Jvm.Cond.code ({ cls := "java/util/Arrays", name := "fill", desc := "([JJ)V" } : Jvm.MethodName) jdk_65_method_101_code (5 : Nat) (Option.none : Option Jvm.ClassFile.FieldType), Jvm.Cond.code ({ cls := "com/example/parley/parley/treesearch/ChildBounds", name := "take", desc := "(IIJJLcom/example/parley/parley/treesearch/SubtreeAssignment;)V" } : Jvm.MethodName) prog_60_method_3_code (8 : Nat) (Option.none : Option Jvm.ClassFile.FieldType), Jvm.Cond.code ({ cls := "com/example/parley/parley/treesearch/ChildBounds", name := "reset", desc := "(IIJ)V" } : Jvm.MethodName) prog_60_method_2_code (5 : Nat) (Option.none : Option Jvm.ClassFile.FieldType), Jvm.Cond.code ({ cls := "com/example/parley/parley/treesearch/ChildBounds", name := "lower", desc := "(II)J" } : Jvm.MethodName) prog_60_method_5_code (3 : Nat) (Option.some Jvm.ClassFile.FieldType.long), Jvm.Cond.code ({ cls := "com/example/parley/parley/treesearch/ChildBounds", name := "upper", desc := "(II)J" } : Jvm.MethodName) prog_60_method_6_code (3 : Nat) (Option.some Jvm.ClassFile.FieldType.long)]
set_option maxRecDepth 65536 in
theorem codes_eq : words1.filter isCode = codes1 := rfl
theorem w_codes : ∀ c ∈ words1.filter isCode, c.before args0 about1 = true := by
  rw [codes_eq]
  intro c hc
  simp only [codes1, List.mem_cons, List.not_mem_nil, or_false] at hc
  rcases hc with rfl | rfl | rfl | rfl | rfl | rfl | rfl | rfl
  · exact w_c0
  · exact w_c1
  · exact w_c2
  · exact w_c3
  · exact w_c4
  · exact w_c5
  · exact w_c6
  · exact w_c7
set_option maxRecDepth 65536 in
theorem w_t1 : (words1.take 24).all (fun c => isCode c || c.before args0 about1) = true := by decide +kernel
set_option maxRecDepth 65536 in
theorem w_t2 : (words1.drop 24).all (fun c => isCode c || c.before args0 about1) = true := by decide +kernel
theorem w_tables : (allAtoms (Jvm.Cond.code x code maxLocals ret :: tables_1)).before args0 about1 = true := by
  rw [allAtoms_all]
  show words1.all (fun c => c.before args0 about1) = true
  refine all_split ?_ w_codes
  rw [← List.take_append_drop 24 words1, List.all_append, w_t1, w_t2]
  rfl
set_option maxRecDepth 65536 in
theorem w_case : (Jvm.Cond.and given_1 narrow_1).before args0 about1 = true := by decide +kernel
theorem w_applies : (headSpec (Jvm.Cond.code x code maxLocals ret :: tables_1) room_1).applies x e0.platform about1 = true :=
  (Spec.applies_iff w_frames).mpr ⟨w_running, w_runnable, w_alone, w_named, w_hears, w_ripe, w_room, w_tables⟩
theorem atStart : AtStart classFile x code maxLocals ret World_1 tables_1 room_1 Calls_1 rest_1 Pre_1 launch0 p0 e0 about1 theMethod args0 below0 :=
  ⟨lists_1, trivial, launch0.admits_env _ _ _, launch0.least_env, fairChoices_fair.cas, fairChoices_fair.clock, w_frames, w_args, w_heap, w_applies, trivial, trivial, w_case⟩
end start1
theorem witness_1 : WitnessClaimed_1 := ⟨start1.p0, start1.e0, start1.about1, start1.theMethod, start1.args0, start1.below0, start1.atStart⟩
end Jvm.Pilot.@@N@@
