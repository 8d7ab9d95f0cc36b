import JvmDerived
import JvmDerived.Pilot.@@N@@Statement
import JvmDerived.Pilot.@@N@@Code
set_option linter.unusedVariables false
set_option linter.unusedSimpArgs false
namespace Jvm.Own
open Sem ClassFile Op Lib Bundle Jvm.Stand Jvm.Free Jvm.LawKit Jvm.RoadKit
/-- from this frame the walk ends, and ends well -/
def Go (p : Program) (e : Env) (below : List Frame) (Q : Outcome → State → Prop) (T : State) (g : JFrame) : Prop :=
  ∃ s₂ o, Steps p.tables e below (T.setTop g) s₂ ∧ s₂.status = .running ∧ Ended s₂ below o ∧ Q o s₂
/-- where a walk stands; the tables at hand are hidden -/
def Cx (p : Program) (l : Launch) (e : Env) (R : Room) (s : State) (m : MethodId) (args : Array Value) (below : List Frame) (meth : Method) (c : Code)
    (Z : State) (EL : List (String × Nat)) (kn : Prop) (y : MethodName) (bytes : ByteArray) (maxL : Nat) (ret : Option FieldType)
    (ws : List Addr) (T : State) (h : Heap) (k n : Nat) : Prop :=
  (p.tables.exec = Jvm.exec ∧ c.code = bytes ∧ c.maxLocals = maxL ∧ meth.sig.returnType = ret ∧ meth.locks = false ∧ meth.name = y.name ∧ Ext Z.heap s.heap) ∧
  ∃ (vm0 : Vm) (k0 : Nat) (locs : List Loc), Stand p l e R (s.setVm vm0) m args below meth c T locs k n ∧ T.heap = h ∧ Z.Warmed39 vm0 ∧ vm0.findClass y.cls = some m.cls ∧ s.Since vm0 k0 ∧ k0 ≤ h.size ∧
    Fr Z.heap.size locs ∧ CHr Z EL s.vm s.heap vm0 h ∧ (∀ x ∈ ws, Safe Z EL vm0 h x ∧ x < h.size) ∧ Ext Z.heap h ∧ (kn → vm0.MethodsKnown ∧ vm0.FramesKnown below)
section Own
variable {p : Program} {l : Launch} {e : Env} {R : Room} {s : State} {m : MethodId} {args : Array Value} {below : List Frame} {meth : Method} {c : Code} {Z : State} {a0 : Array Value} {EL : List (String × Nat)} {kn : Prop} {y : MethodName} {bytes : ByteArray} {maxL : Nat} {ret : Option FieldType}
  {ws : List Addr} {T T' : State} {h h' : Heap} {k n : Nat} {Q : Outcome → State → Prop} {g g' : JFrame} {pc pc' : Nat} {L L' : Array Slot} {S : List Value}
theorem Go.of (st : ∀ t, Steps p.tables e below (T'.setTop g') t → Steps p.tables e below (T.setTop g) t) (K : Go p e below Q T' g') : Go p e below Q T g := by
  obtain ⟨s2, o, h1, h2⟩ := K; exact ⟨s2, o, st _ h1, h2⟩
theorem Cx.exec (X : Cx p l e R s m args below meth c Z EL kn y bytes maxL ret ws T h k n) : p.tables.exec = Jvm.exec := X.1.1
theorem Cx.code (X : Cx p l e R s m args below meth c Z EL kn y bytes maxL ret ws T h k n) : c.code = bytes := X.1.2.1
theorem Cx.at (X : Cx p l e R s m args below meth c Z EL kn y bytes maxL ret ws T h k n) : At T m c below := by obtain ⟨-, vm0, k0, locs, S, -⟩ := X; exact S.here
theorem Cx.old (X : Cx p l e R s m args below meth c Z EL kn y bytes maxL ret ws T h k n) : Ext Z.heap h := by obtain ⟨-, vm0, k0, locs, -, -, -, -, -, -, -, -, -, E, -⟩ := X; exact E
theorem Cx.lt (X : Cx p l e R s m args below meth c Z EL kn y bytes maxL ret ws T h k n) : Z.heap.size ≤ h.size := X.old.1
theorem s_iload (X : Cx p l e R s m args below meth c Z EL kn y bytes maxL ret ws T h k n) {j : Nat} {v : Int32} (hd : decode bytes pc = .ok (.iload j, 2)) (hl : L[j]? = some (.val (.int v))) (hp : pc + 2 = pc') (K : Go p e below Q T (mkF m pc' L (.int v :: S))) : Go p e below Q T (mkF m pc L (S)) := by
  subst hp
  exact Go.of (fun t q => XS.iload X.at X.exec rfl (hb X.code hd) hl q) K
theorem s_iloadN (X : Cx p l e R s m args below meth c Z EL kn y bytes maxL ret ws T h k n) {j : Fin 4} {v : Int32} (hd : decode bytes pc = .ok (.iload_n j, 1)) (hl : L[j.val]? = some (.val (.int v))) (hp : pc + 1 = pc') (K : Go p e below Q T (mkF m pc' L (.int v :: S))) : Go p e below Q T (mkF m pc L (S)) := by
  subst hp
  exact Go.of (fun t q => XS.iloadN X.at X.exec rfl (hb X.code hd) hl q) K
theorem s_lload (X : Cx p l e R s m args below meth c Z EL kn y bytes maxL ret ws T h k n) {j : Nat} {v : Int64} (hd : decode bytes pc = .ok (.lload j, 2)) (hl : L[j]? = some (.val (.long v))) (hp : pc + 2 = pc') (K : Go p e below Q T (mkF m pc' L (.long v :: S))) : Go p e below Q T (mkF m pc L (S)) := by
  subst hp
  exact Go.of (fun t q => XS.lload X.at X.exec rfl (hb X.code hd) hl q) K
theorem s_lloadN (X : Cx p l e R s m args below meth c Z EL kn y bytes maxL ret ws T h k n) {j : Fin 4} {v : Int64} (hd : decode bytes pc = .ok (.lload_n j, 1)) (hl : L[j.val]? = some (.val (.long v))) (hp : pc + 1 = pc') (K : Go p e below Q T (mkF m pc' L (.long v :: S))) : Go p e below Q T (mkF m pc L (S)) := by
  subst hp
  exact Go.of (fun t q => XS.lloadN X.at X.exec rfl (hb X.code hd) hl q) K
theorem s_aload (X : Cx p l e R s m args below meth c Z EL kn y bytes maxL ret ws T h k n) {j : Nat} {v : Value} (hd : decode bytes pc = .ok (.aload j, 2)) (hl : L[j]? = some (.val v)) (hv : v.isRef = true) (hp : pc + 2 = pc') (K : Go p e below Q T (mkF m pc' L (v :: S))) : Go p e below Q T (mkF m pc L (S)) := by
  subst hp
  exact Go.of (fun t q => XS.aload X.at X.exec rfl (hb X.code hd) hl hv q) K
theorem s_aloadN (X : Cx p l e R s m args below meth c Z EL kn y bytes maxL ret ws T h k n) {j : Fin 4} {v : Value} (hd : decode bytes pc = .ok (.aload_n j, 1)) (hl : L[j.val]? = some (.val v)) (hv : v.isRef = true) (hp : pc + 1 = pc') (K : Go p e below Q T (mkF m pc' L (v :: S))) : Go p e below Q T (mkF m pc L (S)) := by
  subst hp
  exact Go.of (fun t q => XS.aloadN X.at X.exec rfl (hb X.code hd) hl hv q) K
theorem s_istore (X : Cx p l e R s m args below meth c Z EL kn y bytes maxL ret ws T h k n) {j : Nat} {v : Int32} (hd : decode bytes pc = .ok (.istore j, 2)) (hl : storeLocals L j (.int v) = some L') (hp : pc + 2 = pc') (K : Go p e below Q T (mkF m pc' L' (S))) : Go p e below Q T (mkF m pc L (.int v :: S)) := by
  subst hp
  exact Go.of (fun t q => XS.istore X.at X.exec rfl (hb X.code hd) rfl hl q) K
theorem s_istoreN (X : Cx p l e R s m args below meth c Z EL kn y bytes maxL ret ws T h k n) {j : Fin 4} {v : Int32} (hd : decode bytes pc = .ok (.istore_n j, 1)) (hl : storeLocals L j.val (.int v) = some L') (hp : pc + 1 = pc') (K : Go p e below Q T (mkF m pc' L' (S))) : Go p e below Q T (mkF m pc L (.int v :: S)) := by
  subst hp
  exact Go.of (fun t q => XS.istoreN X.at X.exec rfl (hb X.code hd) rfl hl q) K
theorem s_lstore (X : Cx p l e R s m args below meth c Z EL kn y bytes maxL ret ws T h k n) {j : Nat} {v : Int64} (hd : decode bytes pc = .ok (.lstore j, 2)) (hl : storeLocals L j (.long v) = some L') (hp : pc + 2 = pc') (K : Go p e below Q T (mkF m pc' L' (S))) : Go p e below Q T (mkF m pc L (.long v :: S)) := by
  subst hp
  exact Go.of (fun t q => XS.lstore X.at X.exec rfl (hb X.code hd) rfl hl q) K
theorem s_lstoreN (X : Cx p l e R s m args below meth c Z EL kn y bytes maxL ret ws T h k n) {j : Fin 4} {v : Int64} (hd : decode bytes pc = .ok (.lstore_n j, 1)) (hl : storeLocals L j.val (.long v) = some L') (hp : pc + 1 = pc') (K : Go p e below Q T (mkF m pc' L' (S))) : Go p e below Q T (mkF m pc L (.long v :: S)) := by
  subst hp
  exact Go.of (fun t q => XS.lstoreN X.at X.exec rfl (hb X.code hd) rfl hl q) K
theorem s_astore (X : Cx p l e R s m args below meth c Z EL kn y bytes maxL ret ws T h k n) {j : Nat} {v : Value} (hd : decode bytes pc = .ok (.astore j, 2)) (hv : v.isRef = true) (hl : storeLocals L j v = some L') (hp : pc + 2 = pc') (K : Go p e below Q T (mkF m pc' L' (S))) : Go p e below Q T (mkF m pc L (v :: S)) := by
  subst hp
  exact Go.of (fun t q => XS.astore X.at X.exec rfl (hb X.code hd) rfl hv hl q) K
theorem s_astoreN (X : Cx p l e R s m args below meth c Z EL kn y bytes maxL ret ws T h k n) {j : Fin 4} {v : Value} (hd : decode bytes pc = .ok (.astore_n j, 1)) (hv : v.isRef = true) (hl : storeLocals L j.val v = some L') (hp : pc + 1 = pc') (K : Go p e below Q T (mkF m pc' L' (S))) : Go p e below Q T (mkF m pc L (v :: S)) := by
  subst hp
  exact Go.of (fun t q => XS.astoreN X.at X.exec rfl (hb X.code hd) rfl hv hl q) K
theorem s_iconst (X : Cx p l e R s m args below meth c Z EL kn y bytes maxL ret ws T h k n) {i : Int} {v : Int32} (hd : decode bytes pc = .ok (.iconst i, 1)) (hv : Int32.ofInt i = v) (hp : pc + 1 = pc') (K : Go p e below Q T (mkF m pc' L (.int v :: S))) : Go p e below Q T (mkF m pc L (S)) := by
  subst hp
  exact Go.of (fun t q => XT.iconstV X.at X.exec rfl v (hb X.code hd) hv q) K
theorem s_bipush (X : Cx p l e R s m args below meth c Z EL kn y bytes maxL ret ws T h k n) {i : Int} {v : Int32} (hd : decode bytes pc = .ok (.bipush i, 2)) (hv : (Int8.ofInt i).toInt32 = v) (hp : pc + 2 = pc') (K : Go p e below Q T (mkF m pc' L (.int v :: S))) : Go p e below Q T (mkF m pc L (S)) := by
  subst hp
  exact Go.of (fun t q => XT.bipushV X.at X.exec rfl v (hb X.code hd) hv q) K
theorem s_sipush (X : Cx p l e R s m args below meth c Z EL kn y bytes maxL ret ws T h k n) {i : Int} {v : Int32} (hd : decode bytes pc = .ok (.sipush i, 3)) (hv : (Int16.ofInt i).toInt32 = v) (hp : pc + 3 = pc') (K : Go p e below Q T (mkF m pc' L (.int v :: S))) : Go p e below Q T (mkF m pc L (S)) := by
  subst hp
  exact Go.of (fun t q => XT.sipushV X.at X.exec rfl v (hb X.code hd) hv q) K
theorem s_lconst (X : Cx p l e R s m args below meth c Z EL kn y bytes maxL ret ws T h k n) {i : Fin 2} {v : Int64} (hd : decode bytes pc = .ok (.lconst i, 1)) (hv : Int64.ofNat i = v) (hp : pc + 1 = pc') (K : Go p e below Q T (mkF m pc' L (.long v :: S))) : Go p e below Q T (mkF m pc L (S)) := by
  subst hp
  exact Go.of (fun t q => XT.lconstV X.at X.exec rfl v (hb X.code hd) hv q) K
theorem s_aconst (X : Cx p l e R s m args below meth c Z EL kn y bytes maxL ret ws T h k n)  (hd : decode bytes pc = .ok (.aconst_null, 1)) (hp : pc + 1 = pc') (K : Go p e below Q T (mkF m pc' L (.null :: S))) : Go p e below Q T (mkF m pc L (S)) := by
  subst hp
  exact Go.of (fun t q => XS.aconstNull X.at X.exec rfl (hb X.code hd) q) K
theorem s_dup (X : Cx p l e R s m args below meth c Z EL kn y bytes maxL ret ws T h k n) {v : Value} (hd : decode bytes pc = .ok (.dup, 1)) (hc : v.category = 1) (hp : pc + 1 = pc') (K : Go p e below Q T (mkF m pc' L (v :: v :: S))) : Go p e below Q T (mkF m pc L (v :: S)) := by
  subst hp
  exact Go.of (fun t q => XS.dup X.at X.exec rfl (hb X.code hd) rfl hc q) K
theorem s_pop (X : Cx p l e R s m args below meth c Z EL kn y bytes maxL ret ws T h k n) {v : Value} (hd : decode bytes pc = .ok (.pop, 1)) (hc : v.category = 1) (hp : pc + 1 = pc') (K : Go p e below Q T (mkF m pc' L (S))) : Go p e below Q T (mkF m pc L (v :: S)) := by
  subst hp
  exact Go.of (fun t q => XS.pop X.at X.exec rfl (hb X.code hd) rfl hc q) K
theorem s_iadd (X : Cx p l e R s m args below meth c Z EL kn y bytes maxL ret ws T h k n) {x z : Int32} (hd : decode bytes pc = .ok (.iadd, 1)) (hp : pc + 1 = pc') (K : Go p e below Q T (mkF m pc' L (.int (x + z) :: S))) : Go p e below Q T (mkF m pc L (.int z :: .int x :: S)) := by
  subst hp
  exact Go.of (fun t q => XS.iadd X.at X.exec rfl (hb X.code hd) rfl q) K
theorem s_isub (X : Cx p l e R s m args below meth c Z EL kn y bytes maxL ret ws T h k n) {x z : Int32} (hd : decode bytes pc = .ok (.isub, 1)) (hp : pc + 1 = pc') (K : Go p e below Q T (mkF m pc' L (.int (x - z) :: S))) : Go p e below Q T (mkF m pc L (.int z :: .int x :: S)) := by
  subst hp
  exact Go.of (fun t q => XS.isub X.at X.exec rfl (hb X.code hd) rfl q) K
theorem s_imul (X : Cx p l e R s m args below meth c Z EL kn y bytes maxL ret ws T h k n) {x z : Int32} (hd : decode bytes pc = .ok (.imul, 1)) (hp : pc + 1 = pc') (K : Go p e below Q T (mkF m pc' L (.int (x * z) :: S))) : Go p e below Q T (mkF m pc L (.int z :: .int x :: S)) := by
  subst hp
  exact Go.of (fun t q => XS.imul X.at X.exec rfl (hb X.code hd) rfl q) K
theorem s_iand (X : Cx p l e R s m args below meth c Z EL kn y bytes maxL ret ws T h k n) {x z : Int32} (hd : decode bytes pc = .ok (.iand, 1)) (hp : pc + 1 = pc') (K : Go p e below Q T (mkF m pc' L (.int (x &&& z) :: S))) : Go p e below Q T (mkF m pc L (.int z :: .int x :: S)) := by
  subst hp
  exact Go.of (fun t q => XS.iand X.at X.exec rfl (hb X.code hd) rfl q) K
theorem s_ior (X : Cx p l e R s m args below meth c Z EL kn y bytes maxL ret ws T h k n) {x z : Int32} (hd : decode bytes pc = .ok (.ior, 1)) (hp : pc + 1 = pc') (K : Go p e below Q T (mkF m pc' L (.int (x ||| z) :: S))) : Go p e below Q T (mkF m pc L (.int z :: .int x :: S)) := by
  subst hp
  exact Go.of (fun t q => XS.ior X.at X.exec rfl (hb X.code hd) rfl q) K
theorem s_ixor (X : Cx p l e R s m args below meth c Z EL kn y bytes maxL ret ws T h k n) {x z : Int32} (hd : decode bytes pc = .ok (.ixor, 1)) (hp : pc + 1 = pc') (K : Go p e below Q T (mkF m pc' L (.int (x ^^^ z) :: S))) : Go p e below Q T (mkF m pc L (.int z :: .int x :: S)) := by
  subst hp
  exact Go.of (fun t q => XS.ixor X.at X.exec rfl (hb X.code hd) rfl q) K
theorem s_ishl (X : Cx p l e R s m args below meth c Z EL kn y bytes maxL ret ws T h k n) {x z : Int32} (hd : decode bytes pc = .ok (.ishl, 1)) (hp : pc + 1 = pc') (K : Go p e below Q T (mkF m pc' L (.int (x <<< (z &&& 31)) :: S))) : Go p e below Q T (mkF m pc L (.int z :: .int x :: S)) := by
  subst hp
  exact Go.of (fun t q => XS.ishl X.at X.exec rfl (hb X.code hd) rfl q) K
theorem s_ishr (X : Cx p l e R s m args below meth c Z EL kn y bytes maxL ret ws T h k n) {x z : Int32} (hd : decode bytes pc = .ok (.ishr, 1)) (hp : pc + 1 = pc') (K : Go p e below Q T (mkF m pc' L (.int (x >>> (z &&& 31)) :: S))) : Go p e below Q T (mkF m pc L (.int z :: .int x :: S)) := by
  subst hp
  exact Go.of (fun t q => XS.ishr X.at X.exec rfl (hb X.code hd) rfl q) K
theorem s_iushr (X : Cx p l e R s m args below meth c Z EL kn y bytes maxL ret ws T h k n) {x z : Int32} (hd : decode bytes pc = .ok (.iushr, 1)) (hp : pc + 1 = pc') (K : Go p e below Q T (mkF m pc' L (.int ((x.toUInt32 >>> (z &&& 31).toUInt32).toInt32) :: S))) : Go p e below Q T (mkF m pc L (.int z :: .int x :: S)) := by
  subst hp
  exact Go.of (fun t q => XS.iushr X.at X.exec rfl (hb X.code hd) rfl q) K
theorem s_idiv (X : Cx p l e R s m args below meth c Z EL kn y bytes maxL ret ws T h k n) {x z : Int32} (hd : decode bytes pc = .ok (.idiv, 1)) (hz : z ≠ 0) (hp : pc + 1 = pc') (K : Go p e below Q T (mkF m pc' L (.int (x / z) :: S))) : Go p e below Q T (mkF m pc L (.int z :: .int x :: S)) := by
  subst hp
  exact Go.of (fun t q => XS.idiv X.at X.exec rfl (hb X.code hd) rfl hz q) K
theorem s_irem (X : Cx p l e R s m args below meth c Z EL kn y bytes maxL ret ws T h k n) {x z : Int32} (hd : decode bytes pc = .ok (.irem, 1)) (hz : z ≠ 0) (hp : pc + 1 = pc') (K : Go p e below Q T (mkF m pc' L (.int (x % z) :: S))) : Go p e below Q T (mkF m pc L (.int z :: .int x :: S)) := by
  subst hp
  obtain ⟨-, vm0, k0, locs, St, -⟩ := id X
  exact Go.of (fun t q => iremM St X.exec rfl (hb X.code hd) rfl hz q) K
theorem s_ineg (X : Cx p l e R s m args below meth c Z EL kn y bytes maxL ret ws T h k n) {x : Int32} (hd : decode bytes pc = .ok (.ineg, 1)) (hp : pc + 1 = pc') (K : Go p e below Q T (mkF m pc' L (.int (-x) :: S))) : Go p e below Q T (mkF m pc L (.int x :: S)) := by
  subst hp
  exact Go.of (fun t q => XS.ineg X.at X.exec rfl (hb X.code hd) rfl q) K
theorem s_ladd (X : Cx p l e R s m args below meth c Z EL kn y bytes maxL ret ws T h k n) {x z : Int64} (hd : decode bytes pc = .ok (.ladd, 1)) (hp : pc + 1 = pc') (K : Go p e below Q T (mkF m pc' L (.long (x + z) :: S))) : Go p e below Q T (mkF m pc L (.long z :: .long x :: S)) := by
  subst hp
  exact Go.of (fun t q => XS.ladd X.at X.exec rfl (hb X.code hd) rfl q) K
theorem s_lsub (X : Cx p l e R s m args below meth c Z EL kn y bytes maxL ret ws T h k n) {x z : Int64} (hd : decode bytes pc = .ok (.lsub, 1)) (hp : pc + 1 = pc') (K : Go p e below Q T (mkF m pc' L (.long (x - z) :: S))) : Go p e below Q T (mkF m pc L (.long z :: .long x :: S)) := by
  subst hp
  exact Go.of (fun t q => XS.lsub X.at X.exec rfl (hb X.code hd) rfl q) K
theorem s_land (X : Cx p l e R s m args below meth c Z EL kn y bytes maxL ret ws T h k n) {x z : Int64} (hd : decode bytes pc = .ok (.land, 1)) (hp : pc + 1 = pc') (K : Go p e below Q T (mkF m pc' L (.long (x &&& z) :: S))) : Go p e below Q T (mkF m pc L (.long z :: .long x :: S)) := by
  subst hp
  exact Go.of (fun t q => XS.land X.at X.exec rfl (hb X.code hd) rfl q) K
theorem s_lrem (X : Cx p l e R s m args below meth c Z EL kn y bytes maxL ret ws T h k n) {x z : Int64} (hd : decode bytes pc = .ok (.lrem, 1)) (hz : z ≠ 0) (hp : pc + 1 = pc') (K : Go p e below Q T (mkF m pc' L (.long (x - (x / z) * z) :: S))) : Go p e below Q T (mkF m pc L (.long z :: .long x :: S)) := by
  subst hp
  exact Go.of (fun t q => XS.lrem X.at X.exec rfl (hb X.code hd) rfl hz q) K
theorem s_lneg (X : Cx p l e R s m args below meth c Z EL kn y bytes maxL ret ws T h k n) {x : Int64} (hd : decode bytes pc = .ok (.lneg, 1)) (hp : pc + 1 = pc') (K : Go p e below Q T (mkF m pc' L (.long (-x) :: S))) : Go p e below Q T (mkF m pc L (.long x :: S)) := by
  subst hp
  exact Go.of (fun t q => XS.lneg X.at X.exec rfl (hb X.code hd) rfl q) K
theorem s_lushr (X : Cx p l e R s m args below meth c Z EL kn y bytes maxL ret ws T h k n) {x : Int64} {z : Int32} (hd : decode bytes pc = .ok (.lushr, 1)) (hp : pc + 1 = pc') (K : Go p e below Q T (mkF m pc' L (.long ((x.toUInt64 >>> (z &&& 0x3f).toInt64.toUInt64).toInt64) :: S))) : Go p e below Q T (mkF m pc L (.int z :: .long x :: S)) := by
  subst hp
  exact Go.of (fun t q => XS.lushr X.at X.exec rfl (hb X.code hd) rfl q) K
theorem s_lcmp (X : Cx p l e R s m args below meth c Z EL kn y bytes maxL ret ws T h k n) {x z : Int64} (hd : decode bytes pc = .ok (.lcmp, 1)) (hp : pc + 1 = pc') (K : Go p e below Q T (mkF m pc' L (.int (lcmpW x z) :: S))) : Go p e below Q T (mkF m pc L (.long z :: .long x :: S)) := by
  subst hp
  exact Go.of (fun t q => XS.lcmp X.at X.exec rfl (hb X.code hd) rfl q) K
theorem s_i2c (X : Cx p l e R s m args below meth c Z EL kn y bytes maxL ret ws T h k n) {x : Int32} (hd : decode bytes pc = .ok (.i2c, 1)) (hp : pc + 1 = pc') (K : Go p e below Q T (mkF m pc' L (.int (x.toUInt32.toUInt16.toUInt32.toInt32) :: S))) : Go p e below Q T (mkF m pc L (.int x :: S)) := by
  subst hp
  exact Go.of (fun t q => XS.i2c X.at X.exec rfl (hb X.code hd) rfl q) K
theorem s_i2b (X : Cx p l e R s m args below meth c Z EL kn y bytes maxL ret ws T h k n) {x : Int32} (hd : decode bytes pc = .ok (.i2b, 1)) (hp : pc + 1 = pc') (K : Go p e below Q T (mkF m pc' L (.int (x.toInt8.toInt32) :: S))) : Go p e below Q T (mkF m pc L (.int x :: S)) := by
  subst hp
  exact Go.of (fun t q => XS.i2b X.at X.exec rfl (hb X.code hd) rfl q) K
theorem s_i2l (X : Cx p l e R s m args below meth c Z EL kn y bytes maxL ret ws T h k n) {x : Int32} (hd : decode bytes pc = .ok (.i2l, 1)) (hp : pc + 1 = pc') (K : Go p e below Q T (mkF m pc' L (.long (x.toInt64) :: S))) : Go p e below Q T (mkF m pc L (.int x :: S)) := by
  subst hp
  exact Go.of (fun t q => XS.i2l X.at X.exec rfl (hb X.code hd) rfl q) K
theorem s_l2i (X : Cx p l e R s m args below meth c Z EL kn y bytes maxL ret ws T h k n) {x : Int64} (hd : decode bytes pc = .ok (.l2i, 1)) (hp : pc + 1 = pc') (K : Go p e below Q T (mkF m pc' L (.int (x.toInt32) :: S))) : Go p e below Q T (mkF m pc L (.long x :: S)) := by
  subst hp
  exact Go.of (fun t q => XS.l2i X.at X.exec rfl (hb X.code hd) rfl q) K
theorem s_iinc (X : Cx p l e R s m args below meth c Z EL kn y bytes maxL ret ws T h k n) {j : Nat} {i : Int} {x v : Int32} (hd : decode bytes pc = .ok (.iinc j i, 3)) (hv : Int32.ofInt i = v) (hl : L[j]? = some (.val (.int x))) (hl' : storeLocals L j (.int (x + v)) = some L') (hp : pc + 3 = pc') (K : Go p e below Q T (mkF m pc' L' (S))) : Go p e below Q T (mkF m pc L (S)) := by
  subst hp
  exact Go.of (fun t q => XT.iincV X.at X.exec rfl v (hb X.code hd) hv hl hl' q) K
theorem s_goto (X : Cx p l e R s m args below meth c Z EL kn y bytes maxL ret ws T h k n) {o : Int} (hd : decode bytes pc = .ok (.goto o, 3)) (ho : 0 ≤ (pc : Int) + o) (hp : ((pc : Int) + o).toNat = pc') (K : Go p e below Q T (mkF m pc' L S)) : Go p e below Q T (mkF m pc L S) :=
  Go.of (fun t q => XS.goto X.at X.exec rfl (pc0 := pc) rfl (hb X.code hd) ho hp q) K
/-- a comparison, said plainly -/
def tst : ClassFile.Cond → Int32 → Int32 → Prop
  | .eq, x, z => x = z
  | .ne, x, z => ¬ x = z
  | .lt, x, z => x < z
  | .ge, x, z => ¬ x < z
  | .gt, x, z => z < x
  | .le, x, z => ¬ z < x
/-- .. and its contrary -/
def nts : ClassFile.Cond → Int32 → Int32 → Prop
  | .eq, x, z => ¬ x = z
  | .ne, x, z => x = z
  | .lt, x, z => ¬ x < z
  | .ge, x, z => x < z
  | .gt, x, z => ¬ z < x
  | .le, x, z => z < x
theorem tst_t {cd : ClassFile.Cond} {x z : Int32} (q : tst cd x z) : if_icmp.holds cd x z = true := by
  cases cd
  · exact XT.ii_eq_t q
  · exact XT.ii_ne_t q
  · exact XT.ii_lt_t q
  · exact XT.ii_ge_t q
  · exact XT.ii_gt_t q
  · exact XT.ii_le_t q
theorem nts_f {cd : ClassFile.Cond} {x z : Int32} (q : nts cd x z) : if_icmp.holds cd x z = false := by
  cases cd
  · exact XT.ii_eq_f q
  · exact XT.ii_ne_f q
  · exact XT.ii_lt_f q
  · exact XT.ii_ge_f q
  · exact XT.ii_gt_f q
  · exact XT.ii_le_f q
theorem tst_or (cd : ClassFile.Cond) (x z : Int32) : tst cd x z ∨ nts cd x z := by
  cases cd
  · exact Classical.em (x = z)
  · exact (Classical.em (x = z)).symm
  · exact Classical.em (x < z)
  · exact (Classical.em (x < z)).symm
  · exact Classical.em (z < x)
  · exact (Classical.em (z < x)).symm
theorem s_icmpT (X : Cx p l e R s m args below meth c Z EL kn y bytes maxL ret ws T h k n) {cd : ClassFile.Cond} {x z : Int32} {o : Int} (hd : decode bytes pc = .ok (.if_icmp cd o, 3)) (q : tst cd x z) (ho : 0 ≤ (pc : Int) + o) (hp : ((pc : Int) + o).toNat = pc') (K : Go p e below Q T (mkF m pc' L S)) : Go p e below Q T (mkF m pc L (.int z :: .int x :: S)) :=
  Go.of (fun t r => XS.icmpYes X.at X.exec rfl (pc0 := pc) rfl (hb X.code hd) rfl (tst_t q) ho hp r) K
theorem s_icmpF (X : Cx p l e R s m args below meth c Z EL kn y bytes maxL ret ws T h k n) {cd : ClassFile.Cond} {x z : Int32} {o : Int} (hd : decode bytes pc = .ok (.if_icmp cd o, 3)) (q : nts cd x z) (hp : pc + 3 = pc') (K : Go p e below Q T (mkF m pc' L S)) : Go p e below Q T (mkF m pc L (.int z :: .int x :: S)) := by
  subst hp
  exact Go.of (fun t r => XS.icmpNo X.at X.exec rfl (hb X.code hd) rfl (nts_f q) r) K
theorem s_ifT (X : Cx p l e R s m args below meth c Z EL kn y bytes maxL ret ws T h k n) {cd : ClassFile.Cond} {x : Int32} {o : Int} (hd : decode bytes pc = .ok (.ifCond cd o, 3)) (q : tst cd x 0) (ho : 0 ≤ (pc : Int) + o) (hp : ((pc : Int) + o).toNat = pc') (K : Go p e below Q T (mkF m pc' L S)) : Go p e below Q T (mkF m pc L (.int x :: S)) :=
  Go.of (fun t r => XS.ifYes X.at X.exec rfl (pc0 := pc) rfl (hb X.code hd) rfl ((if0 _ _).trans (tst_t q)) ho hp r) K
theorem s_ifF (X : Cx p l e R s m args below meth c Z EL kn y bytes maxL ret ws T h k n) {cd : ClassFile.Cond} {x : Int32} {o : Int} (hd : decode bytes pc = .ok (.ifCond cd o, 3)) (q : nts cd x 0) (hp : pc + 3 = pc') (K : Go p e below Q T (mkF m pc' L S)) : Go p e below Q T (mkF m pc L (.int x :: S)) := by
  subst hp
  exact Go.of (fun t r => XS.ifNo X.at X.exec rfl (hb X.code hd) rfl ((if0 _ _).trans (nts_f q)) r) K
theorem s_icmp (X : Cx p l e R s m args below meth c Z EL kn y bytes maxL ret ws T h k n) {cd : ClassFile.Cond} {x z : Int32} {o : Int} {pcF : Nat} (hd : decode bytes pc = .ok (.if_icmp cd o, 3)) (ho : 0 ≤ (pc : Int) + o) (hp : ((pc : Int) + o).toNat = pc') (hf : pc + 3 = pcF) (K : tst cd x z → Go p e below Q T (mkF m pc' L S)) (K' : nts cd x z → Go p e below Q T (mkF m pcF L S)) : Go p e below Q T (mkF m pc L (.int z :: .int x :: S)) :=
  (tst_or cd x z).elim (fun q => s_icmpT X hd q ho hp (K q)) (fun q => s_icmpF X hd q hf (K' q))
theorem s_if (X : Cx p l e R s m args below meth c Z EL kn y bytes maxL ret ws T h k n) {cd : ClassFile.Cond} {x : Int32} {o : Int} {pcF : Nat} (hd : decode bytes pc = .ok (.ifCond cd o, 3)) (ho : 0 ≤ (pc : Int) + o) (hp : ((pc : Int) + o).toNat = pc') (hf : pc + 3 = pcF) (K : tst cd x 0 → Go p e below Q T (mkF m pc' L S)) (K' : nts cd x 0 → Go p e below Q T (mkF m pcF L S)) : Go p e below Q T (mkF m pc L (.int x :: S)) :=
  (tst_or cd x 0).elim (fun q => s_ifT X hd q ho hp (K q)) (fun q => s_ifF X hd q hf (K' q))
theorem s_acmpT (X : Cx p l e R s m args below meth c Z EL kn y bytes maxL ret ws T h k n) {cd : ClassFile.ACond} {x z : Value} {o : Int} (hd : decode bytes pc = .ok (.if_acmp cd o, 3)) (hx' : x.isRef = true) (hz' : z.isRef = true) (q : XT.acmp cd x z = true) (ho : 0 ≤ (pc : Int) + o) (hp : ((pc : Int) + o).toNat = pc') (K : Go p e below Q T (mkF m pc' L S)) : Go p e below Q T (mkF m pc L (z :: x :: S)) :=
  Go.of (fun t r => XT.acmpYes X.at X.exec rfl (pc0 := pc) rfl (hb X.code hd) rfl hx' hz' q ho hp r) K
theorem s_acmpF (X : Cx p l e R s m args below meth c Z EL kn y bytes maxL ret ws T h k n) {cd : ClassFile.ACond} {x z : Value} {o : Int} (hd : decode bytes pc = .ok (.if_acmp cd o, 3)) (hx' : x.isRef = true) (hz' : z.isRef = true) (q : XT.acmp cd x z = false) (hp : pc + 3 = pc') (K : Go p e below Q T (mkF m pc' L S)) : Go p e below Q T (mkF m pc L (z :: x :: S)) := by
  subst hp
  exact Go.of (fun t r => XT.acmpNo X.at X.exec rfl (hb X.code hd) rfl hx' hz' q r) K
theorem s_ifnullT (X : Cx p l e R s m args below meth c Z EL kn y bytes maxL ret ws T h k n) {b : Addr} {o : Int} (hd : decode bytes pc = .ok (.ifnull o, 3)) (ho : 0 ≤ (pc : Int) + o) (hp : ((pc : Int) + o).toNat = pc') (K : Go p e below Q T (mkF m pc' L S)) : Go p e below Q T (mkF m pc L (.null :: S)) :=
  Go.of (fun t r => XS.ifnullYes X.at X.exec rfl (pc0 := pc) rfl (hb X.code hd) rfl ho hp r) K
theorem s_ifnullF (X : Cx p l e R s m args below meth c Z EL kn y bytes maxL ret ws T h k n) {b : Addr} {o : Int} (hd : decode bytes pc = .ok (.ifnull o, 3)) (hp : pc + 3 = pc') (K : Go p e below Q T (mkF m pc' L S)) : Go p e below Q T (mkF m pc L (.ref b :: S)) := by
  subst hp
  exact Go.of (fun t r => XS.ifnullNo X.at X.exec rfl (hb X.code hd) rfl r) K
theorem s_ifnonnullT (X : Cx p l e R s m args below meth c Z EL kn y bytes maxL ret ws T h k n) {b : Addr} {o : Int} (hd : decode bytes pc = .ok (.ifnonnull o, 3)) (ho : 0 ≤ (pc : Int) + o) (hp : ((pc : Int) + o).toNat = pc') (K : Go p e below Q T (mkF m pc' L S)) : Go p e below Q T (mkF m pc L (.ref b :: S)) :=
  Go.of (fun t r => XS.ifnonnullYes X.at X.exec rfl (pc0 := pc) rfl (hb X.code hd) rfl ho hp r) K
theorem s_ifnonnullF (X : Cx p l e R s m args below meth c Z EL kn y bytes maxL ret ws T h k n) {b : Addr} {o : Int} (hd : decode bytes pc = .ok (.ifnonnull o, 3)) (hp : pc + 3 = pc') (K : Go p e below Q T (mkF m pc' L S)) : Go p e below Q T (mkF m pc L (.null :: S)) := by
  subst hp
  exact Go.of (fun t r => XS.ifnonnullNo X.at X.exec rfl (hb X.code hd) rfl r) K
theorem go_int {x z : Int32} (q : x = z) (K : Go p e below Q T (mkF m pc L (.int z :: S))) : Go p e below Q T (mkF m pc L (.int x :: S)) := by subst q; exact K
theorem Cx.more (X : Cx p l e R s m args below meth c Z EL kn y bytes maxL ret ws T h k n) {k' n' : Nat} (hk : k ≤ k') (hn : n ≤ n') : Cx p l e R s m args below meth c Z EL kn y bytes maxL ret ws T h k' n' := by
  obtain ⟨c0, vm0, k0, locs, St, r⟩ := X
  exact ⟨c0, vm0, k0, locs, St.mono hk hn, r⟩
theorem Cx.sub (X : Cx p l e R s m args below meth c Z EL kn y bytes maxL ret ws T h k n) {ws' : List Addr} (hs : ∀ x ∈ ws', x ∈ ws) : Cx p l e R s m args below meth c Z EL kn y bytes maxL ret ws' T h k n := by
  obtain ⟨c0, vm0, k0, locs, St, eT, hZ, hown, hS, hk, N, H, hsf, E, hkn⟩ := X
  exact ⟨c0, vm0, k0, locs, St, eT, hZ, hown, hS, hk, N, H, fun x q => hsf x (hs x q), E, hkn⟩
theorem Cx.wlt (X : Cx p l e R s m args below meth c Z EL kn y bytes maxL ret ws T h k n) {x : Addr} (q : x ∈ ws) : x < h.size := by
  obtain ⟨c0, vm0, k0, locs, St, eT, hZ, hown, hS, hk, N, H, hsf, E, hkn⟩ := X
  exact (hsf x q).2
theorem ext_refl (h : Heap) : Ext h h := ⟨Nat.le_refl _, fun _ _ q => q⟩
theorem ext_trans {h1 h2 h3 : Heap} (E : Ext h1 h2) (F : Ext h2 h3) : Ext h1 h3 := ⟨Nat.le_trans E.1 F.1, fun a c q => F.2 a c (E.2 a c q)⟩
theorem ext_keep {h1 h2 h3 : Heap} {ws : List Addr} (E : Ext h1 h2) (K : Keep h2 h3 ws) (q : ∀ x ∈ ws, h1.size ≤ x) : Ext h1 h3 :=
  ⟨Nat.le_trans E.1 K.1, fun a c r => K.2.1 a c (E.2 a c r) fun z => absurd (Array.getElem?_eq_some_iff.mp r).1 (Nat.not_lt.mpr (q a z))⟩
theorem ext_wr {h1 h2 h3 : Heap} {a : Addr} {sl : Nat} {v : Value} (E : Ext h1 h2) (W : Wr h2 h3 a sl v) (q : h1.size ≤ a) : Ext h1 h3 := ext_keep E (Keep.of_wr W) (allS q all0)
theorem s_getf (X : Cx p l e R s m args below meth c Z EL kn y bytes maxL ret ws T h k n) {index : Nat} {R0 O nm d : String} {a : Addr} {v : Value} (hd : decode bytes pc = .ok (.getfield index, 3)) (w : (Cond.fieldLink y.cls index R0 nm d).before a0 Z = true) (via : Via Z R0 O nm d) (F : Fld Z h a O nm d v) (hp : pc + 3 = pc')
    (K : ∀ T', Cx p l e R s m args below meth c Z EL kn y bytes maxL ret ws T' h k n → Go p e below Q T' (mkF m pc' L (v :: S))) : Go p e below Q T (mkF m pc L (.ref a :: S)) := by
  subst hp
  obtain ⟨c0, vm0, k0, locs, St, eT, hZ, hown, hS, hk, N, H, hsf, E, hkn⟩ := X
  obtain ⟨T', X', e', st⟩ := getF St c0.1 hZ hown (host := "") (Or.inl w) via eT F (g := mkF m pc L (.ref a :: S)) rfl rfl (hb c0.2.1 hd)
  exact Go.of st (K T' ⟨c0, vm0, k0, locs, X', e', hZ, hown, hS, hk, N, H, hsf, E, hkn⟩)
theorem s_getfN (X : Cx p l e R s m args below meth c Z EL kn y bytes maxL ret ws T h k n) {index : Nat} {R0 O nm d host : String} {a : Addr} {v : Value} (hd : decode bytes pc = .ok (.getfield index, 3)) (w : (Cond.fieldLinkNest y.cls index R0 nm d host).before a0 Z = true) (via : Via Z R0 O nm d) (F : Fld Z h a O nm d v) (hp : pc + 3 = pc')
    (K : ∀ T', Cx p l e R s m args below meth c Z EL kn y bytes maxL ret ws T' h k n → Go p e below Q T' (mkF m pc' L (v :: S))) : Go p e below Q T (mkF m pc L (.ref a :: S)) := by
  subst hp
  obtain ⟨c0, vm0, k0, locs, St, eT, hZ, hown, hS, hk, N, H, hsf, E, hkn⟩ := X
  obtain ⟨T', X', e', st⟩ := getF St c0.1 hZ hown (host := host) (Or.inr w) via eT F (g := mkF m pc L (.ref a :: S)) rfl rfl (hb c0.2.1 hd)
  exact Go.of st (K T' ⟨c0, vm0, k0, locs, X', e', hZ, hown, hS, hk, N, H, hsf, E, hkn⟩)
theorem s_gets (X : Cx p l e R s m args below meth c Z EL kn y bytes maxL ret ws T h k n) {index : Nat} {R0 O nm d : String} {v : Value} (hd : decode bytes pc = .ok (.getstatic index, 3)) (w : (Cond.fieldLink y.cls index R0 nm d).before a0 Z = true) (via : Via Z R0 O nm d) (F : Sta Z Z.heap O nm d v) (hp : pc + 3 = pc')
    (K : ∀ T', Cx p l e R s m args below meth c Z EL kn y bytes maxL ret ws T' h k n → Go p e below Q T' (mkF m pc' L (v :: S))) : Go p e below Q T (mkF m pc L S) := by
  subst hp
  obtain ⟨c0, vm0, k0, locs, St, eT, hZ, hown, hS, hk, N, H, hsf, E, hkn⟩ := X
  obtain ⟨T', X', e', st⟩ := getS St c0.1 hZ hown (host := "") w via eT (F.ext E) (g := mkF m pc L S) rfl (hb c0.2.1 hd)
  exact Go.of st (K T' ⟨c0, vm0, k0, locs, X', e', hZ, hown, hS, hk, N, H, hsf, E, hkn⟩)
theorem s_putf (X : Cx p l e R s m args below meth c Z EL kn y bytes maxL ret ws T h k n) {index kk : Nat} {R0 O nm d C : String} {ty : FieldType} {a : Addr} {v old : Value} (hd : decode bytes pc = .ok (.putfield index, 3)) (w : (Cond.fieldLink y.cls index R0 nm d).before a0 Z = true) (via : Via Z R0 O nm d) (F : Fld Z h a O nm d old) (E0 : Exa Z h a C)
    (Lf : (Cond.lays C O nm d).before a0 Z = true ∨ ((Cond.laysFinal C O nm d).before a0 Z = true ∧ y.cls = O ∧ y.name = "<init>")) (wi : (Cond.instantiable C kk).before a0 Z = true) (hty : parseFieldDescriptor d = some ty) (hn : narrow ty v = v) (hf : fits ty v = true) (ha : Z.heap.size ≤ a) (hm : a ∈ ws) (hp : pc + 3 = pc')
    (K : ∀ T' h', Cx p l e R s m args below meth c Z EL kn y bytes maxL ret ws T' h' k n → Wr h h' a (RoadKit.slotOf Z O nm d) v → Go p e below Q T' (mkF m pc' L S)) : Go p e below Q T (mkF m pc L (v :: .ref a :: S)) := by
  subst hp
  obtain ⟨c0, vm0, k0, locs, St, eT, hZ, hown, hS, hk, N, H, hsf, E, hkn⟩ := X
  obtain ⟨T', h', X', e', W, st⟩ := putF St c0.1 hZ hown (host := "") (Or.inl w) via eT F E0 (Lf.imp id fun q => ⟨q.1, q.2.1, c0.2.2.2.2.2.1.trans q.2.2⟩) wi hty hn hf (g := mkF m pc L (v :: .ref a :: S)) rfl rfl (hb c0.2.1 hd)
  have Sa := (hsf a hm).1
  exact Go.of st (K T' h' ⟨c0, vm0, k0, _, X', e', hZ, hown, hS, by rw [W.size]; exact hk, Fr.snoc X' N ha, H.trans (CHr.wr W Sa H.1), fun x q => ⟨Safe.wr W Sa H.1 (hsf x q).1, by rw [W.size]; exact (hsf x q).2⟩, ext_wr E W ha, hkn⟩ W)
theorem s_new (X : Cx p l e R s m args below meth c Z EL kn y bytes maxL ret ws T h k n) {index nn : Nat} {C : String} {k' n' : Nat} (hd : decode bytes pc = .ok (.new index, 3)) (w : (Cond.classLink y.cls index C).before a0 Z = true) (wi : (Cond.instantiable C nn).before a0 Z = true) (wz : (Cond.initialized C).before a0 Z = true)
    (hk' : k + 1 ≤ k') (hn' : n + nn ≤ n') (hkR : k' ≤ R.cells) (hnR : n' ≤ R.slots) (hp : pc + 3 = pc')
    (K : ∀ (T' : State) (h' : Heap) (a : Addr), a = h.size → Cx p l e R s m args below meth c Z EL kn y bytes maxL ret (a :: ws) T' h' k' n' → Ext h h' → Exa Z h' a C → (∀ {O nm d : String} {ty : FieldType}, Laid Z a0 C O nm d → parseFieldDescriptor d = some ty → Fld Z h' a O nm d (defaultValue ty)) → Unt h' a → Go p e below Q T' (mkF m pc' L (.ref a :: S))) : Go p e below Q T (mkF m pc L S) := by
  subst hp
  obtain ⟨c0, vm0, k0, locs, St, eT, hZ, hown, hS, hk, N, H, hsf, E, hkn⟩ := X
  obtain ⟨T', h', X', e', E', A, D, U, st⟩ := newO St c0.1 hZ hown w wi wz eT (g := mkF m pc L S) rfl (hb c0.2.1 hd) (Nat.le_trans hk' hkR) (Nat.le_trans hn' hnR)
  refine Go.of st (K T' h' h.size rfl ⟨c0, vm0, k0, _, X'.mono hk' hn', e', hZ, hown, hS, Nat.le_trans hk E'.1, N, H.trans (CHr.ext E' H.1), fun x q => ?_, ext_trans E E', hkn⟩ E' A D U)
  rcases List.mem_cons.mp q with rfl | q
  · exact ⟨Safe.ext E' H.1 (Safe.new (Nat.le_refl _)), A.lt⟩
  · exact ⟨Safe.ext E' H.1 (hsf x q).1, Nat.lt_of_lt_of_le (hsf x q).2 E'.1⟩
/-- an array: what she holds, whole -/
def Ary (Z : State) (h : Heap) (a : Addr) (ty : FieldType) (vs : List Value) : Prop := ∃ cl : Cell, RoadKit.Arr Z h a cl ty ∧ cl.slots.toList = vs ∧ vs.length < 2 ^ 31 ∧ ∀ v ∈ vs, fits ty v = true
theorem Ary.ext {a : Addr} {ty : FieldType} {vs : List Value} (A : Ary Z h a ty vs) (E : Ext h h') : Ary Z h' a ty vs := by obtain ⟨cl, q, r⟩ := A; exact ⟨cl, q.ext E, r⟩
theorem Ary.keep {a : Addr} {ty : FieldType} {vs : List Value} {wr : List Addr} (A : Ary Z h a ty vs) (K : Keep h h' wr) (q : a ∉ wr) : Ary Z h' a ty vs := by obtain ⟨cl, r1, r⟩ := A; exact ⟨cl, ⟨K.2.1 a cl r1.1 q, r1.2⟩, r⟩
theorem Ary.other {a b : Addr} {sl : Nat} {v : Value} {ty : FieldType} {vs : List Value} (A : Ary Z h a ty vs) (W : Wr h h' b sl v) (q : a ≠ b) : Ary Z h' a ty vs := by obtain ⟨cl, r1, r⟩ := A; exact ⟨cl, r1.other W q, r⟩
theorem Ary.lt {a : Addr} {ty : FieldType} {vs : List Value} (A : Ary Z h a ty vs) : a < h.size := by obtain ⟨cl, q, r⟩ := A; exact q.lt
theorem n32 {N : Nat} (q : N < 2 ^ 31) : (Int32.ofNat N).toNatClampNeg = N := by
  have e : (Int32.ofNat N).toInt = N := Int32.toInt_ofNat_of_lt (by omega)
  simp [Int32.toNatClampNeg, e]
theorem nn32 {N : Nat} (q : N < 2 ^ 31) : ¬ Int32.ofNat N < 0 := by
  have e : (Int32.ofNat N).toInt = N := Int32.toInt_ofNat_of_lt (by omega)
  rw [Int32.lt_iff_toInt_lt, e]; show ¬ (N : Int) < 0; omega
theorem Ary.arv {a : Addr} {ty : FieldType} {vs : List Value} (A : Ary Z h a ty vs) (dv : Value) : ∃ kc, Arv Z h a kc ty (Int32.ofNat vs.length) vs dv := by
  obtain ⟨cl, q, r1, r2, r3⟩ := A
  have sz : cl.slots.size = vs.length := by rw [← r1]; simp
  have ga : ∀ i, i < vs.length → vs.getD i dv = vs[i]! := fun i hi => by simp [List.getD_eq_getElem?_getD, hi]
  refine ⟨cl.cls, cl, q, rfl, by rw [sz, n32 r2], nn32 r2, fun i hi => ?_, fun i hi => ?_⟩
  · have hi' : i < vs.length := sz ▸ hi
    rw [← Array.getElem?_toList, r1, List.getElem?_eq_getElem hi']; simp [List.getD_eq_getElem?_getD, hi']
  · have hi' : i < vs.length := sz ▸ hi
    have : vs.getD i dv = vs[i] := by simp [List.getD_eq_getElem?_getD, hi']
    rw [this]; exact r3 _ (List.getElem_mem _)
theorem Ary.of_arv {a : Addr} {ty : FieldType} {vs : List Value} {kc : ClassId} {z : Int32} {dv : Value} (A : Arv Z h a kc ty z vs dv) (hl : z.toNatClampNeg = vs.length) (hb : vs.length < 2 ^ 31) : Ary Z h a ty vs := by
  obtain ⟨cl, q, r1, r2, r3, r4, r5⟩ := A
  have sz : cl.slots.size = vs.length := r2.trans hl
  refine ⟨cl, q, List.ext_getElem? fun i => ?_, hb, fun v hv => ?_⟩
  · rw [Array.getElem?_toList]
    rcases Nat.lt_or_ge i cl.slots.size with hi | hi
    · have hi' : i < vs.length := sz ▸ hi
      rw [r4 i hi, List.getElem?_eq_getElem hi']; simp [List.getD_eq_getElem?_getD, hi']
    · rw [Array.getElem?_eq_none hi, List.getElem?_eq_none (by omega)]
  · obtain ⟨i, hi, rfl⟩ := List.mem_iff_getElem.mp hv
    have := r5 i (by omega)
    simpa [List.getD_eq_getElem?_getD, hi] using this
theorem s_newarr (X : Cx p l e R s m args below meth c Z EL kn y bytes maxL ret ws T h k n) {aty : ArrayType} {z : Int32} {N : Nat} {k' n' : Nat} (hd : decode bytes pc = .ok (.newarray aty, 2)) (w : (Cond.arrayClass (newarray.typeOf aty)).before a0 Z = true) (hz : z = Int32.ofNat N) (hN : N ≤ 67108864)
    (hk' : k + 1 ≤ k') (hn' : n + N ≤ n') (hkR : k' ≤ R.cells) (hnR : n' ≤ R.slots) (hp : pc + 2 = pc')
    (K : ∀ (T' : State) (h' : Heap) (a : Addr), a = h.size → Cx p l e R s m args below meth c Z EL kn y bytes maxL ret (a :: ws) T' h' k' n' → Ext h h' → Ary Z h' a (newarray.typeOf aty) (List.replicate N (defaultValue (newarray.typeOf aty))) → Go p e below Q T' (mkF m pc' L (.ref a :: S))) : Go p e below Q T (mkF m pc L (.int z :: S)) := by
  subst hp; subst hz
  have hN' : N < 2 ^ 31 := by omega
  obtain ⟨c0, vm0, k0, locs, St, eT, hZ, hown, hS, hk, N0, H, hsf, E, hkn⟩ := X
  obtain ⟨T', h', cA, X', e', E', A, st⟩ := newP St c0.1 hZ w eT (g := mkF m pc L (.int (Int32.ofNat N) :: S)) rfl (hb c0.2.1 hd) rfl (nn32 hN') (cap := N) (Nat.le_of_eq (n32 hN')) (by omega) (Nat.le_trans hk' hkR) (Nat.le_trans hn' hnR)
  refine Go.of st (K T' h' h.size rfl ⟨c0, vm0, k0, _, X'.mono hk' hn', e', hZ, hown, hS, Nat.le_trans hk E'.1, N0, H.trans (CHr.ext E' H.1), fun x q => ?_, ext_trans E E', hkn⟩ E' ⟨_, A, ?_, by simpa using hN', ?_⟩)
  · rcases List.mem_cons.mp q with rfl | q
    · exact ⟨Safe.ext E' H.1 (Safe.new (Nat.le_refl _)), A.lt⟩
    · exact ⟨Safe.ext E' H.1 (hsf x q).1, Nat.lt_of_lt_of_le (hsf x q).2 E'.1⟩
  · simp [newA, n32 hN']
  · intro v hv
    rw [(List.mem_replicate.mp hv).2]
    cases aty <;> rfl
theorem Ary.set {a : Addr} {ty : FieldType} {vs : List Value} {i : Nat} {v : Value} {cl : Cell} (A : RoadKit.Arr Z h a cl ty) (q1 : cl.slots.toList = vs) (q2 : vs.length < 2 ^ 31) (q3 : ∀ v ∈ vs, fits ty v = true) (hv : fits ty v = true) (W : Wr h h' a i v) : Ary Z h' a ty (vs.set i v) := by
  refine ⟨_, A.same W, ?_, by simpa using q2, fun x hx => ?_⟩
  · show (cl.slots.setIfInBounds i v).toList = _
    rw [Array.toList_setIfInBounds, q1]
  · rcases List.mem_or_eq_of_mem_set hx with r | rfl
    · exact q3 x r
    · exact hv
theorem s_castore (X : Cx p l e R s m args below meth c Z EL kn y bytes maxL ret ws T h k n) {a : Addr} {vs : List Value} {i : Nat} {j x : Int32} (hd : decode bytes pc = .ok (.castore, 1)) (A : Ary Z h a .char vs) (hj : j = Int32.ofNat i) (hi : i < vs.length) (ha : Z.heap.size ≤ a) (hm : a ∈ ws) (hp : pc + 1 = pc')
    (K : ∀ T' h', Cx p l e R s m args below meth c Z EL kn y bytes maxL ret ws T' h' k n → Wr h h' a i (.int (nar .char x)) → Ary Z h' a .char (vs.set i (.int (nar .char x))) → Go p e below Q T' (mkF m pc' L S)) : Go p e below Q T (mkF m pc L (.int x :: .int j :: .ref a :: S)) := by
  subst hp; subst hj
  obtain ⟨cl, q, r1, r2, r3⟩ := A
  have sz : cl.slots.size = vs.length := by rw [← r1]; simp
  have hi2 : i < 2 ^ 31 := Nat.lt_trans hi r2
  obtain ⟨c0, vm0, k0, locs, St, eT, hZ, hown, hS, hk, N, H, hsf, E, hkn⟩ := X
  obtain ⟨T', h', X', e', W, st⟩ := stC St c0.1 hZ eT q (j := Int32.ofNat i) (x := x) (fun z => z.elim (nn32 hi2) (fun z => by rw [n32 hi2] at z; omega)) (g := mkF m pc L (.int x :: .int (Int32.ofNat i) :: .ref a :: S)) rfl rfl (hb c0.2.1 hd)
  rw [n32 hi2] at W X'
  have Sa := (hsf a hm).1
  exact Go.of st (K T' h' ⟨c0, vm0, k0, _, X', e', hZ, hown, hS, by rw [W.size]; exact hk, Fr.snoc X' N ha, H.trans (CHr.wr W Sa H.1), fun x q => ⟨Safe.wr W Sa H.1 (hsf x q).1, by rw [W.size]; exact (hsf x q).2⟩, ext_wr E W ha, hkn⟩ W (Ary.set q r1 r2 r3 (fits_nar_char x) W))
theorem fits_nar_byte (x : Int32) : fits .byte (.int (nar .byte x)) = true := by
  have h1 := c_i2b x
  show fits .byte (.int x.toInt8.toInt32) = true
  simp only [fits, Bool.and_eq_true, decide_eq_true_eq, Int32.le_iff_toInt_le]
  exact ⟨by show (-128 : Int) ≤ _; omega, by show _ ≤ (127 : Int); omega⟩
theorem s_bastore (X : Cx p l e R s m args below meth c Z EL kn y bytes maxL ret ws T h k n) {a : Addr} {vs : List Value} {i : Nat} {j x : Int32} (hd : decode bytes pc = .ok (.bastore, 1)) (A : Ary Z h a .byte vs) (hj : j = Int32.ofNat i) (hi : i < vs.length) (ha : Z.heap.size ≤ a) (hm : a ∈ ws) (hp : pc + 1 = pc')
    (K : ∀ T' h', Cx p l e R s m args below meth c Z EL kn y bytes maxL ret ws T' h' k n → Wr h h' a i (.int (nar .byte x)) → Ary Z h' a .byte (vs.set i (.int (nar .byte x))) → Go p e below Q T' (mkF m pc' L S)) : Go p e below Q T (mkF m pc L (.int x :: .int j :: .ref a :: S)) := by
  subst hp; subst hj
  obtain ⟨cl, q, r1, r2, r3⟩ := A
  have sz : cl.slots.size = vs.length := by rw [← r1]; simp
  have hi2 : i < 2 ^ 31 := Nat.lt_trans hi r2
  obtain ⟨c0, vm0, k0, locs, St, eT, hZ, hown, hS, hk, N, H, hsf, E, hkn⟩ := X
  obtain ⟨T', h', X', e', W, st⟩ := stB St c0.1 hZ eT q (j := Int32.ofNat i) (x := x) (fun z => z.elim (nn32 hi2) (fun z => by rw [n32 hi2] at z; omega)) (g := mkF m pc L (.int x :: .int (Int32.ofNat i) :: .ref a :: S)) rfl rfl (hb c0.2.1 hd)
  rw [n32 hi2] at W X'
  have Sa := (hsf a hm).1
  exact Go.of st (K T' h' ⟨c0, vm0, k0, _, X', e', hZ, hown, hS, by rw [W.size]; exact hk, Fr.snoc X' N ha, H.trans (CHr.wr W Sa H.1), fun x q => ⟨Safe.wr W Sa H.1 (hsf x q).1, by rw [W.size]; exact (hsf x q).2⟩, ext_wr E W ha, hkn⟩ W (Ary.set q r1 r2 r3 (fits_nar_byte x) W))
theorem ary_at {cl : Cell} {vs : List Value} {i : Nat} {v : Value} (r1 : cl.slots.toList = vs) (r2 : vs.length < 2 ^ 31) (hv : vs[i]? = some v) : ¬ (Int32.ofNat i < 0 ∨ cl.slots.size ≤ (Int32.ofNat i).toNatClampNeg) ∧ cl.slots[(Int32.ofNat i).toNatClampNeg]? = some v := by
  have hi : i < vs.length := by
    rcases Nat.lt_or_ge i vs.length with q | q
    · exact q
    · rw [List.getElem?_eq_none q] at hv; cases hv
  have sz : cl.slots.size = vs.length := by rw [← r1]; simp
  have hi2 : i < 2 ^ 31 := Nat.lt_trans hi r2
  refine ⟨fun z => z.elim (nn32 hi2) (fun z => by rw [n32 hi2] at z; omega), ?_⟩
  rw [n32 hi2, ← Array.getElem?_toList, r1]; exact hv
theorem s_caload (X : Cx p l e R s m args below meth c Z EL kn y bytes maxL ret ws T h k n) {a : Addr} {vs : List Value} {i : Nat} {j : Int32} {v : Value} (hd : decode bytes pc = .ok (.caload, 1)) (A : Ary Z h a .char vs) (hj : j = Int32.ofNat i) (hv : vs[i]? = some v) (hp : pc + 1 = pc')
    (K : Go p e below Q T (mkF m pc' L (v :: S))) : Go p e below Q T (mkF m pc L (.int j :: .ref a :: S)) := by
  subst hp; subst hj
  obtain ⟨cl, q, r1, r2, r3⟩ := A
  obtain ⟨i1, i2⟩ := ary_at r1 r2 hv
  obtain ⟨c0, vm0, k0, locs, St, eT, hZ, r⟩ := X
  exact Go.of (St.caload c0.1 (by rw [eT]; exact q.1) (State.isArrayOf_alike hZ.alike q.2.1) q.2.2 i1 i2 (g := mkF m pc L (.int (Int32.ofNat i) :: .ref a :: S)) rfl rfl (hb c0.2.1 hd)) K
theorem s_baload (X : Cx p l e R s m args below meth c Z EL kn y bytes maxL ret ws T h k n) {a : Addr} {vs : List Value} {i : Nat} {j : Int32} {v : Value} (hd : decode bytes pc = .ok (.baload, 1)) (A : Ary Z h a .byte vs) (hj : j = Int32.ofNat i) (hv : vs[i]? = some v) (hp : pc + 1 = pc')
    (K : Go p e below Q T (mkF m pc' L (v :: S))) : Go p e below Q T (mkF m pc L (.int j :: .ref a :: S)) := by
  subst hp; subst hj
  obtain ⟨cl, q, r1, r2, r3⟩ := A
  obtain ⟨i1, i2⟩ := ary_at r1 r2 hv
  obtain ⟨c0, vm0, k0, locs, St, eT, hZ, r⟩ := X
  exact Go.of (St.baloadBytes c0.1 (by rw [eT]; exact q.1) (State.isArrayOf_alike hZ.alike q.2.1) q.2.2 i1 i2 (g := mkF m pc L (.int (Int32.ofNat i) :: .ref a :: S)) rfl rfl (hb c0.2.1 hd)) K
theorem s_aaload (X : Cx p l e R s m args below meth c Z EL kn y bytes maxL ret ws T h k n) {a : Addr} {vs : List Value} {i : Nat} {j : Int32} {v : Value} {ty : FieldType} (hd : decode bytes pc = .ok (.aaload, 1)) (A : Ary Z h a ty vs) (hty : ty.isReference = true) (hj : j = Int32.ofNat i) (hv : vs[i]? = some v) (hp : pc + 1 = pc')
    (K : Go p e below Q T (mkF m pc' L (v :: S))) : Go p e below Q T (mkF m pc L (.int j :: .ref a :: S)) := by
  subst hp; subst hj
  obtain ⟨cl, q, r1, r2, r3⟩ := A
  obtain ⟨i1, i2⟩ := ary_at r1 r2 hv
  obtain ⟨c0, vm0, k0, locs, St, eT, hZ, r⟩ := X
  exact Go.of (St.aaload c0.1 (by rw [eT]; exact q.1) (State.isArrayOf_alike hZ.alike q.2.1) hty q.2.2 i1 i2 (g := mkF m pc L (.int (Int32.ofNat i) :: .ref a :: S)) rfl rfl (hb c0.2.1 hd)) K
theorem s_alen (X : Cx p l e R s m args below meth c Z EL kn y bytes maxL ret ws T h k n) {a : Addr} {vs : List Value} {ty : FieldType} {z : Int32} (hd : decode bytes pc = .ok (.arraylength, 1)) (A : Ary Z h a ty vs) (hz : Int32.ofNat vs.length = z) (hp : pc + 1 = pc')
    (K : Go p e below Q T (mkF m pc' L (.int z :: S))) : Go p e below Q T (mkF m pc L (.ref a :: S)) := by
  subst hp; subst hz
  obtain ⟨cl, q, r1, r2, r3⟩ := A
  have sz : cl.slots.size = vs.length := by rw [← r1]; simp
  obtain ⟨c0, vm0, k0, locs, St, eT, hZ, r⟩ := X
  rw [← sz] at K
  exact Go.of (St.arraylength c0.1 (by rw [eT]; exact q.1) (State.isArrayOf_alike hZ.alike q.2.1) (g := mkF m pc L (.ref a :: S)) rfl rfl (hb c0.2.1 hd)) K
theorem s_ldcI (X : Cx p l e R s m args below meth c Z EL kn y bytes maxL ret ws T h k n) {index : Nat} {v : Int32} (hd : decode bytes pc = .ok (.ldc index, 2)) (w : (Cond.constant y.cls index v).before a0 Z = true) (hp : pc + 2 = pc') (K : Go p e below Q T (mkF m pc' L (.int v :: S))) : Go p e below Q T (mkF m pc L S) := by
  subst hp
  obtain ⟨c0, vm0, k0, locs, St, eT, hZ, hown, r⟩ := X
  exact Go.of (fun t q => Jvm.Stand.ldcI St c0.1 hown (mvT hZ w) (g := mkF m pc L S) rfl (hb c0.2.1 hd) q) K
theorem s_ldc2J (X : Cx p l e R s m args below meth c Z EL kn y bytes maxL ret ws T h k n) {index : Nat} {v : Int64} (hd : decode bytes pc = .ok (.ldc2_w index, 3)) (w : (Cond.constantLong y.cls index v).before a0 Z = true) (hp : pc + 3 = pc') (K : Go p e below Q T (mkF m pc' L (.long v :: S))) : Go p e below Q T (mkF m pc L S) := by
  subst hp
  obtain ⟨c0, vm0, k0, locs, St, eT, hZ, hown, r⟩ := X
  exact Go.of (fun t q => Jvm.Stand.ldc2J St c0.1 hown (mvT hZ w) (g := mkF m pc L S) rfl (hb c0.2.1 hd) q) K
theorem s_instY (X : Cx p l e R s m args below meth c Z EL kn y bytes maxL ret ws T h k n) {index : Nat} {K0 : String} {a : Addr} (hd : decode bytes pc = .ok (.instanceof index, 3)) (w : (Cond.classLink y.cls index K0).before a0 Z = true) (F : Ins Z h a K0 true) (hp : pc + 3 = pc')
    (K : ∀ T', Cx p l e R s m args below meth c Z EL kn y bytes maxL ret ws T' h k n → Go p e below Q T' (mkF m pc' L (.int 1 :: S))) : Go p e below Q T (mkF m pc L (.ref a :: S)) := by
  subst hp
  obtain ⟨c0, vm0, k0, locs, St, eT, hZ, hown, hS, hk, N, H, hsf, E, hkn⟩ := X
  obtain ⟨T', X', e', st⟩ := instY St c0.1 hZ hown w eT F (g := mkF m pc L (.ref a :: S)) rfl rfl (hb c0.2.1 hd)
  exact Go.of st (K T' ⟨c0, vm0, k0, locs, X', e', hZ, hown, hS, hk, N, H, hsf, E, hkn⟩)
theorem s_instN (X : Cx p l e R s m args below meth c Z EL kn y bytes maxL ret ws T h k n) {index : Nat} {K0 C : String} {a : Addr} (hd : decode bytes pc = .ok (.instanceof index, 3)) (w : (Cond.classLink y.cls index K0).before a0 Z = true) (E0 : Exa Z h a C) (F : Ins Z h a K0 false) (hp : pc + 3 = pc')
    (K : ∀ T', Cx p l e R s m args below meth c Z EL kn y bytes maxL ret ws T' h k n → Go p e below Q T' (mkF m pc' L (.int 0 :: S))) : Go p e below Q T (mkF m pc L (.ref a :: S)) := by
  subst hp
  obtain ⟨c0, vm0, k0, locs, St, eT, hZ, hown, hS, hk, N, H, hsf, E, hkn⟩ := X
  obtain ⟨cell, cT, h1, h2, h3⟩ := F
  obtain ⟨cell', kk, e1, -, e3, e4, -⟩ := E0
  cases h1.symm.trans e1
  have hZ' : Z.Warmed39 (s.setVm vm0).vm := hZ
  obtain ⟨k', q, -⟩ := hZ'.alike.2.2 _ _ e3
  obtain ⟨vm', X', st⟩ := Jvm.Sym.instanceofNoAt St c0.1 hown (mv hZ w) (by rw [eT]; exact h1) e4 q (by rw [hZ'.alike.findClass]; exact h2) (by rw [hZ'.alike.assignable]; simpa [e4] using h3) (g := mkF m pc L (.ref a :: S)) rfl rfl (hb c0.2.1 hd)
  exact Go.of st (K _ ⟨c0, vm0, k0, locs, X', eT, hZ, hown, hS, hk, N, H, hsf, E, hkn⟩)
theorem s_instNull (X : Cx p l e R s m args below meth c Z EL kn y bytes maxL ret ws T h k n) {index : Nat} (hd : decode bytes pc = .ok (.instanceof index, 3)) (hp : pc + 3 = pc') (K : Go p e below Q T (mkF m pc' L (.int 0 :: S))) : Go p e below Q T (mkF m pc L (.null :: S)) := by
  subst hp
  obtain ⟨c0, vm0, k0, locs, St, r⟩ := X
  exact Go.of (St.instanceofNull c0.1 (g := mkF m pc L (.null :: S)) rfl rfl (hb c0.2.1 hd)) K
theorem s_castY (X : Cx p l e R s m args below meth c Z EL kn y bytes maxL ret ws T h k n) {index : Nat} {K0 : String} {a : Addr} (hd : decode bytes pc = .ok (.checkcast index, 3)) (w : (Cond.classLink y.cls index K0).before a0 Z = true) (F : Ins Z h a K0 true) (hp : pc + 3 = pc')
    (K : ∀ T', Cx p l e R s m args below meth c Z EL kn y bytes maxL ret ws T' h k n → Go p e below Q T' (mkF m pc' L (.ref a :: S))) : Go p e below Q T (mkF m pc L (.ref a :: S)) := by
  subst hp
  obtain ⟨c0, vm0, k0, locs, St, eT, hZ, hown, hS, hk, N, H, hsf, E, hkn⟩ := X
  obtain ⟨T', X', e', st⟩ := castY St c0.1 hZ hown w eT F (g := mkF m pc L (.ref a :: S)) rfl rfl (hb c0.2.1 hd)
  exact Go.of st (K T' ⟨c0, vm0, k0, locs, X', e', hZ, hown, hS, hk, N, H, hsf, E, hkn⟩)
/-- the end of a walk -/
def Post (Z : State) (EL : List (String × Nat)) (U : State) (rm : Room) (Qc : Option Value → Heap → List Addr → Prop) (o : Outcome) (U' : State) : Prop :=
  ∃ v L ws', o = .returned v ∧ Qc v U'.heap ws' ∧ Fr Z.heap.size L ∧ Ext Z.heap U'.heap ∧ CHr Z EL U.vm U.heap U'.vm U'.heap ∧ (∀ x ∈ ws', Safe Z EL U'.vm U'.heap x ∧ x < U'.heap.size) ∧ ReturnedEndW U o U' L rm.cells rm.slots
/-- a body's contract -/
def Con (l : Launch) (Z : State) (EL : List (String × Nat)) (kn : Prop) (y : MethodName) (bytes : ByteArray) (maxL : Nat) (ret : Option FieldType) (rm : Room) (ws : List Addr) (as' : Array Value) (h : Heap) (Qc : Option Value → Heap → List Addr → Prop) : Prop :=
  ∀ wds : List Jvm.Cond, MetFree l y (head1 (Jvm.Cond.code y bytes maxL ret :: wds) rm) (fun a U => a = as' ∧ Z.Warmed39 U.vm ∧ U.heap = h ∧ CHv Z EL U.vm h ∧ (∀ x ∈ ws, Safe Z EL U.vm h x ∧ x < h.size) ∧ Ext Z.heap h) (fun _ _ bl U _ => kn → U.vm.MethodsKnown ∧ U.vm.FramesKnown bl) (fun _ U o U' => Post Z EL U rm Qc o U')
theorem Con.intro {rm : Room} {as' : Array Value} {Qc : Option Value → Heap → List Addr → Prop} (pn : plainFor y = true)
    (body : ∀ p e s m below meth c T, Cx p l e rm s m as' below meth c Z EL kn y bytes maxL ret ws T h 0 0 → Go p e below (Post Z EL s rm Qc) T (entryFrame m as' maxL)) : Con l Z EL kn y bytes maxL ret rm ws as' h Qc := by
  intro wds
  refine MetFree.of_bodySF pn hisR ?_
  intro p e s m args below meth c s₁ Bd hml0 hP hK
  obtain ⟨rfl, hZ, hh, hCH, hsf, hE⟩ := hP
  have St : Stand p l e rm s m args below meth c s₁ [] 0 0 := Stand.of_body Bd
  have e0 : s₁.heap = h := by rw [← hh, Bd.state]; rfl
  have hown : s.vm.findClass y.cls = some m.cls := findClass_of_methodNamed Bd.named
  have hnm := (name_of_methodNamed Bd.named Bd.method).1
  exact body p e s m below meth c s₁ ⟨⟨Bd.exec, Bd.bytes, hml0, Bd.returns, Bd.notSynchronized, hnm, by rw [hh]; exact hE⟩, s.vm, 0, [], St, e0, hZ, hown, (State.WarmedH.refl s).since 0, Nat.zero_le _, Fr.nil _, by rw [← hh] at hCH ⊢; exact CHr.refl hCH, hsf, hE, hK⟩
theorem rew_mono {U U' : State} {o : Outcome} {Lc : List Loc} {k1 n1 k2 n2 : Nat} (q : ReturnedEndW U o U' Lc k1 n1) (hk : k1 ≤ k2) (hn : n1 ≤ n2) : ReturnedEndW U o U' Lc k2 n2 := ⟨q.1, q.2.1, q.2.2.1, q.2.2.2.mono hk hn⟩
theorem Cx.fin (X : Cx p l e R s m args below meth c Z EL kn y bytes maxL ret ws T h k n) (hEL : EW Z a0 EL) {rm : Room} {Qc : Option Value → Heap → List Addr → Prop} {v : Option Value} {ws' : List Addr} (hv : ret = none → v = none) (hk : k ≤ rm.cells) (hn : n ≤ rm.slots) (hQ : Qc v h ws') (hws : ∀ x ∈ ws', x ∈ ws) {gf : JFrame}
    (st : ∀ fs, (∀ (f : JFrame) (acts : List Action), f.method = m → f.locked = none → f.entered = [] → (doReturn e (T.setTop f) acts v).1 = T.setFrames fs) → Steps p.tables e below (T.setTop gf) (T.setFrames fs)) : Go p e below (Post Z EL s rm Qc) T gf := by
  obtain ⟨c0, vm0, k0, locs, St, eT, hZ, hown, hS, hk0, N, H, hsf, E, hkn⟩ := X
  obtain ⟨fs, h1, h2, h3, h4⟩ := St.leaveW hS (by rw [eT]; exact hk0) (v := v) (fun q => hv (c0.2.2.2.1.symm.trans q)) (hlocks := c0.2.2.2.2.1)
  have C := CHv.at St hZ hEL H.1
  refine ⟨T.setFrames fs, .returned v, st fs h1, h2, h3, v, locs, ws', rfl, ?_, N, ?_, ?_, fun x q => ?_, rew_mono h4 hk hn⟩
  · show Qc v T.heap ws'; rw [eT]; exact hQ
  · show Ext Z.heap T.heap; rw [eT]; exact E
  · show CHr Z EL s.vm s.heap T.vm T.heap; rw [eT]; exact H.trans C
  · show Safe Z EL T.vm T.heap x ∧ x < T.heap.size
    rw [eT]; exact ⟨C.safe (hsf x (hws x q)).2 (hsf x (hws x q)).1, (hsf x (hws x q)).2⟩
theorem Cx.stand (X : Cx p l e R s m args below meth c Z EL kn y bytes maxL ret ws T h k n) : ∃ vm0 locs, Stand p l e R (s.setVm vm0) m args below meth c T locs k n := by obtain ⟨c0, vm0, k0, locs, St, -⟩ := X; exact ⟨vm0, locs, St⟩
theorem s_ret (X : Cx p l e R s m args below meth c Z EL kn y bytes maxL none ws T h k n) (hEL : EW Z a0 EL) {rm : Room} {Qc : Option Value → Heap → List Addr → Prop} {ws' : List Addr} (hd : decode bytes pc = .ok (.return_, 1)) (hk : k ≤ rm.cells) (hn : n ≤ rm.slots) (hws : ∀ x ∈ ws', x ∈ ws) (hQ : Qc none h ws') : Go p e below (Post Z EL s rm Qc) T (mkF m pc L []) := by
  obtain ⟨vm0, locs, St⟩ := X.stand
  exact X.fin hEL (fun _ => rfl) hk hn hQ hws fun fs q => St.returnOut X.exec X.1.2.2.2.1 (hb X.code hd) q
theorem s_iretN (X : Cx p l e R s m args below meth c Z EL kn y bytes maxL ret ws T h k n) (hEL : EW Z a0 EL) {rm : Room} {Qc : Option Value → Heap → List Addr → Prop} {ws' : List Addr} {t : FieldType} {z : Int32} (hd : decode bytes pc = .ok (.ireturn, 1)) (hr : ret = some t) (ht : t = .boolean ∨ t = .byte ∨ t = .char ∨ t = .short) (hk : k ≤ rm.cells) (hn : n ≤ rm.slots) (hws : ∀ x ∈ ws', x ∈ ws) (hQ : Qc (some (.int (nar t z))) h ws') : Go p e below (Post Z EL s rm Qc) T (mkF m pc L (.int z :: S)) := by
  obtain ⟨vm0, locs, St⟩ := X.stand
  exact X.fin hEL (fun q => by rw [hr] at q; cases q) hk hn hQ hws fun fs q => retN St X.exec (X.1.2.2.2.1.trans hr) ht (hb X.code hd) q
theorem s_iret (X : Cx p l e R s m args below meth c Z EL kn y bytes maxL (some .int) ws T h k n) (hEL : EW Z a0 EL) {rm : Room} {Qc : Option Value → Heap → List Addr → Prop} {ws' : List Addr} {z : Int32} (hd : decode bytes pc = .ok (.ireturn, 1)) (hk : k ≤ rm.cells) (hn : n ≤ rm.slots) (hws : ∀ x ∈ ws', x ∈ ws) (hQ : Qc (some (.int z)) h ws') : Go p e below (Post Z EL s rm Qc) T (mkF m pc L (.int z :: S)) := by
  obtain ⟨vm0, locs, St⟩ := X.stand
  exact X.fin hEL (fun q => by cases q) hk hn hQ hws fun fs q => retOut St X.exec X.1.2.2.2.1 rfl (Or.inl ⟨rfl, Or.inl rfl, _, rfl⟩) (hb X.code hd) q
theorem s_aret (X : Cx p l e R s m args below meth c Z EL kn y bytes maxL ret ws T h k n) (hEL : EW Z a0 EL) {rm : Room} {Qc : Option Value → Heap → List Addr → Prop} {ws' : List Addr} {t : FieldType} {v : Value} (hd : decode bytes pc = .ok (.areturn, 1)) (hr : ret = some t) (ht : t.isReference = true) (hnr : narrow t v = v) (hv : v.isRef = true) (hk : k ≤ rm.cells) (hn : n ≤ rm.slots) (hws : ∀ x ∈ ws', x ∈ ws) (hQ : Qc (some v) h ws') : Go p e below (Post Z EL s rm Qc) T (mkF m pc L (v :: S)) := by
  obtain ⟨vm0, locs, St⟩ := X.stand
  exact X.fin hEL (fun q => by rw [hr] at q; cases q) hk hn hQ hws fun fs q => retOut St X.exec (X.1.2.2.2.1.trans hr) hnr (Or.inr (Or.inr (Or.inr (Or.inr ⟨rfl, ht, hv⟩)))) (hb X.code hd) q
/-- who pays a call -/
def Pay (l : Launch) (R : Room) (p : Program) (e : Env) (below : List Frame) (s : State) (args : Array Value) (Z : State) (EL : List (String × Nat)) (kn : Prop) (ws : List Addr) (y : MethodName) (len W ck sk : Nat) (as' : Array Value) (h : Heap) (Qc : Option Value → Heap → List Addr → Prop) : Prop :=
  ∀ vm0 : Vm, Z.Warmed39 vm0 → CHv Z EL vm0 h → (∀ x ∈ ws, Safe Z EL vm0 h x ∧ x < h.size) → Ext Z.heap h → (kn → vm0.MethodsKnown ∧ vm0.FramesKnown below) →
    BackS l R p e below (s.setVm vm0) args y len W (fun A a => a = as' ∧ A.U.heap = h ∧ A.cells + ck ≤ R.cells ∧ A.slots + sk ≤ R.slots)
      (fun A _ v B => ∃ L ws', Qc v B.U.heap ws' ∧ Fr Z.heap.size L ∧ Ext Z.heap B.U.heap ∧ B.locs = A.locs ++ L ∧ B.cells = A.cells + ck ∧ B.slots = A.slots + sk ∧ CHr Z EL vm0 h B.U.vm B.U.heap ∧ ∀ x ∈ ws', Safe Z EL B.U.vm B.U.heap x ∧ x < B.U.heap.size)
theorem safe_at {vm0 : Vm} {locs : List Loc} (St : Stand p l e R (s.setVm vm0) m args below meth c T locs k n) (hZ : Z.Warmed39 vm0) (hEL : EW Z a0 EL) (H : CHv Z EL vm0 h) (hsf : ∀ x ∈ ws, Safe Z EL vm0 h x ∧ x < h.size) : ∀ x ∈ ws, Safe Z EL T.vm h x ∧ x < h.size := fun x q => ⟨(CHv.at St hZ hEL H).safe (hsf x q).2 (hsf x q).1, (hsf x q).2⟩
theorem Con.pay {z : MethodName} {b' : ByteArray} {mL' : Nat} {r' : Option FieldType} {rm : Room} {as' : Array Value} {Qc : Option Value → Heap → List Addr → Prop} {len W : Nat} (C : Con l Z EL kn z b' mL' r' rm ws as' h Qc) (wc : (Jvm.Cond.code z b' mL' r').before a0 Z = true) (wz : (Jvm.Cond.initialized z.cls).before a0 Z = true) (hEL : EW Z a0 EL) (hf : rm.frames + 1 ≤ R.frames) (hl : W + (mL' + 11) + rm.locals ≤ R.locals) :
    Pay l R p e below s args Z EL kn ws z len W rm.cells rm.slots as' h Qc := by
  intro vm0 hZ H hsf hE hkn
  refine BackS.of_freeWG (bytes := b') (maxL := mL') (ret := r') (E := fun _ first o t L k n => k = rm.cells ∧ n = rm.slots ∧ (∃ v ws', o = .returned v ∧ Qc v t.heap ws' ∧ Fr Z.heap.size L ∧ Ext Z.heap t.heap ∧ ∀ x ∈ ws', Safe Z EL t.vm t.heap x ∧ x < t.heap.size) ∧ CHr Z EL first.vm first.heap t.vm t.heap) (C []) hf hl
    (fun m meth c A a Y hp => have hU : Z.Warmed39 A.U.vm := wtrans (s := s.setVm vm0) hZ Y.warmed
      ⟨by show (Jvm.Cond.and _ .tt).before a A.U = true; rw [Cond.before_and, mv hU wc]; rfl, mv hU wc, mv hU wz, hp.2.2.1, hp.2.2.2⟩)
    (fun m meth c A a g mk Y hp => ⟨hp.1, wtrans (s := s.setVm vm0) hZ Y.warmed, hp.2.1, (CHv.at Y hZ hEL H).1, safe_at (T := A.U) Y hZ hEL H hsf, hE⟩)
    (fun m meth c A a g mk Y _ hg hk => known_frames Y hg (hkn hk).1 (hkn hk).2)
    (fun _ _ _ _ ⟨v, L, ws', h1, h2, h3, h4, h5, h6, h7⟩ => ⟨L, _, _, h7, rfl, rfl, ⟨v, ws', h1, h2, h3, h4, h6⟩, h5⟩) ?_
  intro m meth c A a g mk v t L k n Y hp _ _ hE'
  obtain ⟨e1, e2, ⟨v', ws', e3, e4, e5, e6, e7⟩, e8⟩ := hE'
  cases e3; subst e1 e2
  refine ⟨L, ws', e4, e5, e6, rfl, rfl, rfl, (CHv.at Y hZ hEL H).trans ?_, e7⟩
  rw [← hp.2.1]; exact e8
theorem Pay.sub {z : MethodName} {as' : Array Value} {Qc : Option Value → Heap → List Addr → Prop} {len W ck sk : Nat} {ws0 : List Addr} (P : Pay l R p e below s args Z EL kn ws0 z len W ck sk as' h Qc) (hs : ∀ x ∈ ws0, x ∈ ws) : Pay l R p e below s args Z EL kn ws z len W ck sk as' h Qc :=
  fun vm0 hZ H hsf hE hkn => P vm0 hZ H (fun x q => hsf x (hs x q)) hE hkn
theorem Con.payS {z : MethodName} {b' : ByteArray} {mL' : Nat} {r' : Option FieldType} {rm : Room} {as' : Array Value} {Qc : Option Value → Heap → List Addr → Prop} {len W : Nat} {ws0 : List Addr} (C : Con l Z EL kn z b' mL' r' rm ws0 as' h Qc) (hs : ∀ x ∈ ws0, x ∈ ws) (wc : (Jvm.Cond.code z b' mL' r').before a0 Z = true) (wz : (Jvm.Cond.initialized z.cls).before a0 Z = true) (hEL : EW Z a0 EL) (hf : rm.frames + 1 ≤ R.frames) (hl : W + (mL' + 11) + rm.locals ≤ R.locals) :
    Pay l R p e below s args Z EL kn ws z len W rm.cells rm.slots as' h Qc := (C.pay wc wz hEL hf hl).sub hs
theorem Pay.of_back {z : MethodName} {as' : Array Value} {Q0 : Option Value → Heap → List Loc → Prop} {Qc : Option Value → Heap → List Addr → Prop} {len W ck sk : Nat} (hEL : EW Z a0 EL)
    (B : ∀ vm0 : Vm, Z.Warmed39 vm0 → Back l R p e below (s.setVm vm0) args z len W (fun P a => a = as' ∧ P.U.heap = h ∧ P.cells + ck ≤ R.cells ∧ P.slots + sk ≤ R.slots) (fun P _ v B => ∃ L, Q0 v B.U.heap L ∧ B.locs = P.locs ++ L ∧ B.cells = P.cells + ck ∧ B.slots = P.slots + sk))
    (hq : ∀ v h' L, Q0 v h' L → ∃ wr ws', Keep h h' wr ∧ (∀ x ∈ wr, x ∈ ws ∧ Z.heap.size ≤ x) ∧ Fr Z.heap.size L ∧ Qc v h' ws' ∧ ∀ x ∈ ws', x ∈ ws ∨ (h.size ≤ x ∧ x < h'.size)) : Pay l R p e below s args Z EL kn ws z len W ck sk as' h Qc := by
  intro vm0 hZ H hsf hE hkn m meth c A g ig mk a X hg hsize hdg hW hn hp
  obtain ⟨v, B1, X', ⟨L, q0, r1, r2, r3⟩, st⟩ := B vm0 hZ m meth c A g ig mk a X hg hsize hdg hW hn hp
  obtain ⟨wr, ws', K, k1, k2, k3, k4⟩ := hq _ _ _ q0
  have sw : ∀ x ∈ wr, Safe Z EL vm0 h x := fun x q => (hsf x (k1 x q).1).1
  have C1 : CHr Z EL vm0 h vm0 B1.U.heap := CHr.keep K sw H
  have C2 := CHv.at X' hZ hEL C1.1
  refine ⟨v, B1, X'.retabled X'.warmed.wide, X'.warmed.since _, by rw [hp.2.1]; exact K.1, ⟨L, ws', k3, k2, ext_keep hE K fun x q => (k1 x q).2, r1, r2, r3, C1.trans C2, fun x q => ?_⟩, st⟩
  have lt : x < B1.U.heap.size := (k4 x q).elim (fun r => Nat.lt_of_lt_of_le (hsf x r).2 K.1) (fun r => r.2)
  refine ⟨C2.safe lt ?_, lt⟩
  exact Safe.keep K sw H ((k4 x q).elim (fun r => (hsf x r).1) (fun r => Safe.new r.1))
theorem after {vm0 : Vm} {k0 : Nat} {locs L' : List Loc} {ws' : List Addr} {ck sk : Nat} {U : State} (c0 : p.tables.exec = Jvm.exec ∧ c.code = bytes ∧ c.maxLocals = maxL ∧ meth.sig.returnType = ret ∧ meth.locks = false ∧ meth.name = y.name ∧ Ext Z.heap s.heap)
    (X' : Stand p l e R ((s.setVm vm0).setVm U.vm) m args below meth c U (locs ++ L') (k + ck) (n + sk)) (hZ : Z.Warmed39 vm0) (hown : vm0.findClass y.cls = some m.cls) (hS : s.Since vm0 k0) (hk : k0 ≤ h.size) (N : Fr Z.heap.size locs) (H : CHr Z EL s.vm s.heap vm0 h) (hsf : ∀ x ∈ ws, Safe Z EL vm0 h x ∧ x < h.size) (hkn : kn → vm0.MethodsKnown ∧ vm0.FramesKnown below)
    (h2 : (s.setVm vm0).Since U.vm U.heap.size) (hgr : h.size ≤ U.heap.size) (N' : Fr Z.heap.size L') (E' : Ext Z.heap U.heap) (H' : CHr Z EL vm0 h U.vm U.heap) (hsf' : ∀ x ∈ ws', Safe Z EL U.vm U.heap x ∧ x < U.heap.size) :
    Cx p l e R s m args below meth c Z EL kn y bytes maxL ret (ws' ++ ws) U U.heap (k + ck) (n + sk) := by
  have al : vm0.Alike U.vm := h2.1.alike
  refine ⟨c0, U.vm, _, _, X', rfl, State.Warmed39.trans (t := s.setVm vm0) hZ h2.1, (al.findClass _ _).trans hown, hS.trans h2 (Nat.le_trans hk hgr), Nat.le_refl _, N.app N', H.trans H', fun x q => ?_, E', fun q => ⟨Vm.MethodsKnown.alikeC al (hkn q).1, fun fr hfr m' hm' => knowsMethod_alike al ((hkn q).2 fr hfr m' hm')⟩⟩
  rcases List.mem_append.mp q with q | q
  · exact hsf' x q
  · exact ⟨H'.safe (hsf x q).2 (hsf x q).1, Nat.lt_of_lt_of_le (hsf x q).2 hgr⟩
theorem s_static (X : Cx p l e R s m args below meth c Z EL kn y bytes maxL ret ws T h k n) {index : Nat} {z : MethodName} {b' : ByteArray} {mL' : Nat} {r' : Option FieldType} {W ck sk : Nat} {as' : List Value} {Qc : Option Value → Heap → List Addr → Prop} {ps : List FieldType} {rr : Option FieldType} {stk : List Value} {k' n' : Nat} (hd : decode bytes pc = .ok (.invokestatic index, 3))
    (w1 : (Jvm.Cond.methodLink y.cls index z).before a0 Z = true) (w2 : (Jvm.Cond.static z).before a0 Z = true) (w3 : (Jvm.Cond.initialized z.cls).before a0 Z = true) (w4 : (Jvm.Cond.code z b' mL' r').before a0 Z = true) (hz : z.cls ≠ "java/lang/invoke/MethodHandle" ∧ z.cls ≠ "java/lang/invoke/VarHandle") (hpd : parseMethodDescriptor z.desc = some ⟨ps, rr⟩) (hlen : as'.length = ps.length)
    (P : Pay l R p e below s args Z EL kn ws z 3 W ck sk as'.toArray h Qc) (hW : (S.map fun v => v.category).sum ≤ W) (hsz : L.size = maxL) (hst : stk = as'.reverse ++ S) (hk' : k + ck ≤ k') (hn' : n + sk ≤ n') (hkR : k' ≤ R.cells) (hnR : n' ≤ R.slots) (hp : pc + 3 = pc')
    (K : ∀ T' h' v ws', Cx p l e R s m args below meth c Z EL kn y bytes maxL ret (ws' ++ ws) T' h' k' n' → h.size ≤ h'.size → Qc v h' ws' → Go p e below Q T' (mkF m pc' L (v.toList ++ S))) : Go p e below Q T (mkF m pc L stk) := by
  subst hp; subst hst
  obtain ⟨c0, vm0, k0, locs, St, eT, hZ, hown, hS, hk, N, H, hsf, E, hkn⟩ := X
  have hP := P vm0 hZ H.1 hsf E hkn
  obtain ⟨v, vm₁, B, hw, X', h2, hgr, ⟨L', ws', q1, q2, q3, q4, q5, q6, q7, q8⟩, st⟩ := callSS St c0.1 hown (mvT hZ w1) (mvT hZ w2) (mvT hZ w3) (mvT hZ w4) hz hP (g := mkF m pc L (as'.reverse ++ S)) rfl (hsz.trans c0.2.2.1.symm) (lenOf hpd hlen) rfl (by show 2 * 0 + _ ≤ _; omega) (hb c0.2.1 hd) (fun _ _ => ⟨rfl, eT, Nat.le_trans hk' hkR, Nat.le_trans hn' hnR⟩)
  obtain ⟨U, Lb, kb, nb⟩ := B
  dsimp only [Pt.U, Pt.locs, Pt.cells, Pt.slots] at X' h2 hgr q1 q2 q3 q4 q5 q6 q7 q8 st
  subst q4 q5 q6
  rw [eT] at hgr
  exact Go.of (fun t q => st.trans q) (K U U.heap v ws' ((after c0 X' hZ hown hS hk N H hsf hkn h2 hgr q2 q3 q7 q8).more hk' hn') hgr q1)
theorem s_special (X : Cx p l e R s m args below meth c Z EL kn y bytes maxL ret ws T h k n) {index : Nat} {z : MethodName} {b' : ByteArray} {mL' : Nat} {W ck sk : Nat} {a : Addr} {as' : List Value} {Qc : Option Value → Heap → List Addr → Prop} {ps : List FieldType} {rr : Option FieldType} {stk : List Value} {k' n' : Nat} (hd : decode bytes pc = .ok (.invokespecial index, 3)) (hz1 : z.name = "<init>")
    (w1 : (Jvm.Cond.methodLink y.cls index z).before a0 Z = true) (w2 : (Jvm.Cond.instanceMethod z).before a0 Z = true) (w4 : (Jvm.Cond.code z b' mL' none).before a0 Z = true) (hz : z.cls ≠ "java/lang/invoke/MethodHandle" ∧ z.cls ≠ "java/lang/invoke/VarHandle") (hpd : parseMethodDescriptor z.desc = some ⟨ps, rr⟩) (hlen : as'.length = ps.length)
    (P : Pay l R p e below s args Z EL kn ws z 3 W ck sk (.ref a :: as').toArray h Qc) (hW : (S.map fun v => v.category).sum ≤ W) (hsz : L.size = maxL) (hst : stk = as'.reverse ++ .ref a :: S) (hk' : k + ck ≤ k') (hn' : n + sk ≤ n') (hkR : k' ≤ R.cells) (hnR : n' ≤ R.slots) (hp : pc + 3 = pc')
    (K : ∀ T' h' v ws', Cx p l e R s m args below meth c Z EL kn y bytes maxL ret (ws' ++ ws) T' h' k' n' → h.size ≤ h'.size → Qc v h' ws' → Go p e below Q T' (mkF m pc' L (v.toList ++ S))) : Go p e below Q T (mkF m pc L stk) := by
  subst hp; subst hst
  obtain ⟨c0, vm0, k0, locs, St, eT, hZ, hown, hS, hk, N, H, hsf, E, hkn⟩ := X
  have hP := P vm0 hZ H.1 hsf E hkn
  obtain ⟨v, vm₁, B, hw, X', h2, hgr, ⟨L', ws', q1, q2, q3, q4, q5, q6, q7, q8⟩, st⟩ := St.specialBackS c0.1 hz1 hown (mvT hZ w1) (mvT hZ w2) (mvT hZ w4) hz hP (g := mkF m pc L (as'.reverse ++ .ref a :: S)) rfl (hsz.trans c0.2.2.1.symm) (Steps.refl _) (lenOf hpd hlen) rfl (by show 2 * 0 + _ ≤ _; omega) (hb c0.2.1 hd) (fun _ _ => ⟨rfl, eT, Nat.le_trans hk' hkR, Nat.le_trans hn' hnR⟩)
  obtain ⟨U, Lb, kb, nb⟩ := B
  dsimp only [Pt.U, Pt.locs, Pt.cells, Pt.slots] at X' h2 hgr q1 q2 q3 q4 q5 q6 q7 q8 st
  subst q4 q5 q6
  rw [eT] at hgr
  exact Go.of (fun t q => st.trans q) (K U U.heap v ws' ((after c0 X' hZ hown hS hk N H hsf hkn h2 hgr q2 q3 q7 q8).more hk' hn') hgr q1)
theorem nface {C : String} {z : MethodName} (w : (Jvm.Cond.selects C z z).before a0 Z = true) : ∀ s : State, Z.Warmed39 s.vm → NotFace s z := fun s hZ => notFace_of_selects (args := #[]) (mvT hZ w)
theorem s_virtual (X : Cx p l e R s m args below meth c Z EL kn y bytes maxL ret ws T h k n) {index : Nat} {C : String} {z z' : MethodName} {W ck sk : Nat} {a : Addr} {as' : List Value} {Qc : Option Value → Heap → List Addr → Prop} {ps : List FieldType} {rr : Option FieldType} {stk : List Value} {k' n' : Nat} (hd : decode bytes pc = .ok (.invokevirtual index, 3))
    (w1 : (Jvm.Cond.methodLink y.cls index z).before a0 Z = true) (w2 : (Jvm.Cond.declares z).before a0 Z = true) (w3 : (Jvm.Cond.selects C z z').before a0 Z = true) (w4 : (Jvm.Cond.instanceMethod z').before a0 Z = true) (nf : ∀ s : State, Z.Warmed39 s.vm → NotFace s z) (hz : z.cls ≠ "java/lang/invoke/MethodHandle" ∧ z.cls ≠ "java/lang/invoke/VarHandle") (hpd : parseMethodDescriptor z.desc = some ⟨ps, rr⟩) (hlen : as'.length = ps.length) (E0 : Exa Z h a C)
    (P : Pay l R p e below s args Z EL kn ws z' 3 W ck sk (.ref a :: as').toArray h Qc) (hW : (S.map fun v => v.category).sum ≤ W) (hsz : L.size = maxL) (hst : stk = as'.reverse ++ .ref a :: S) (hk' : k + ck ≤ k') (hn' : n + sk ≤ n') (hkR : k' ≤ R.cells) (hnR : n' ≤ R.slots) (hp : pc + 3 = pc')
    (K : ∀ T' h' v ws', Cx p l e R s m args below meth c Z EL kn y bytes maxL ret (ws' ++ ws) T' h' k' n' → h.size ≤ h'.size → Qc v h' ws' → Go p e below Q T' (mkF m pc' L (v.toList ++ S))) : Go p e below Q T (mkF m pc L stk) := by
  subst hp; subst hst
  obtain ⟨c0, vm0, k0, locs, St, eT, hZ, hown, hS, hk, N, H, hsf, E, hkn⟩ := X
  have hP := P vm0 hZ H.1 hsf E hkn
  have hZ' : Z.Warmed39 (s.setVm vm0).vm := hZ
  obtain ⟨cq, kq, qa, qb, qc⟩ := isOf hZ' eT E0
  obtain ⟨v, vm₁, B, hw, X', h2, hgr, ⟨L', ws', q1, q2, q3, q4, q5, q6, q7, q8⟩, st⟩ := St.virtualBackS c0.1 hown (mvT hZ w1) (mvT hZ w2) (nf (s.setVm vm0) hZ) (mvT hZ w3) (mvT hZ w4) hz hP qa qc (g := mkF m pc L (as'.reverse ++ .ref a :: S)) rfl (hsz.trans c0.2.2.1.symm) (Steps.refl _) (lenOf hpd hlen) rfl (by show 2 * 0 + _ ≤ _; omega) (hb c0.2.1 hd) (fun _ _ => ⟨rfl, eT, Nat.le_trans hk' hkR, Nat.le_trans hn' hnR⟩)
  obtain ⟨U, Lb, kb, nb⟩ := B
  dsimp only [Pt.U, Pt.locs, Pt.cells, Pt.slots] at X' h2 hgr q1 q2 q3 q4 q5 q6 q7 q8 st
  subst q4 q5 q6
  rw [eT] at hgr
  exact Go.of (fun t q => st.trans q) (K U U.heap v ws' ((after c0 X' hZ hown hS hk N H hsf hkn h2 hgr q2 q3 q7 q8).more hk' hn') hgr q1)
theorem s_initO (X : Cx p l e R s m args below meth c Z EL kn y bytes maxL ret ws T h k n) {index : Nat} {a : Addr} (hd : decode bytes pc = .ok (.invokespecial index, 3))
    (w1 : (Jvm.Cond.methodLink y.cls index ⟨"java/lang/Object", "<init>", "()V"⟩).before a0 Z = true) (w2 : (Jvm.Cond.instanceMethod ⟨"java/lang/Object", "<init>", "()V"⟩).before a0 Z = true) {b' : ByteArray} (hb0 : b' = ⟨#[0xb1]⟩) (w4 : (Jvm.Cond.code ⟨"java/lang/Object", "<init>", "()V"⟩ b' 1 none).before a0 Z = true)
    {W : Nat} (hW : (S.map fun v => v.category).sum ≤ W) (hfr : 1 ≤ R.frames) (hlo : W + 12 ≤ R.locals) (hsz : L.size = maxL) (hp : pc + 3 = pc')
    (K : ∀ T', Cx p l e R s m args below meth c Z EL kn y bytes maxL ret ws T' h k n → Go p e below Q T' (mkF m pc' L S)) : Go p e below Q T (mkF m pc L (.ref a :: S)) := by
  subst hp; subst hb0
  obtain ⟨c0, vm0, k0, locs, St, eT, hZ, hown, hS, hk, N, H, hsf, E, hkn⟩ := X
  obtain ⟨T', X', e', st⟩ := initO St c0.1 hZ hown w1 w2 w4 eT (g := mkF m pc L (.ref a :: S)) rfl (hsz.trans c0.2.2.1.symm) rfl (hb c0.2.1 hd) hfr (W := W) (by show 2 * 0 + _ ≤ _; omega) hlo
  exact Go.of st (K T' ⟨c0, vm0, k0, locs, X', e', hZ, hown, hS, hk, N, H, hsf, E, hkn⟩)
/-- ldc of a String constant that is held: the text read -/
theorem s_ldcS (X : Cx p l e R s m args below meth c Z EL kn y bytes maxL ret ws T h k n) {index : Nat} {text : String} (hEL : EW Z a0 EL) (hd : decode bytes pc = .ok (.ldc index, 2)) (w : (Jvm.Cond.stringLink y.cls index text).before a0 Z = true) (wS : ∀ a ∈ Bundle.stringAtoms, a.before a0 Z = true) (hmem : (y.cls, index) ∈ EL)
    {vs : List Value} {z : Int32} (ht : (∀ c ∈ text.toList, c.toNat < 256) ∧ text.toList.map (fun c => Value.int (Jvm.Lit.byteI c.toNat.toUInt16)) = vs) (hz : ¬ z < 0) (hl : z.toNatClampNeg = vs.length) {nn k' n' : Nat} (hnn : 4 * text.toList.length ≤ nn) (hbig : nn ≤ 536870912) (hk' : k + 2 ≤ k') (hn' : n + (nn + 4) ≤ n') (hkR : k' ≤ R.cells) (hnR : n' ≤ R.slots) (hp : pc + 2 = pc')
    (K : ∀ T' h' (a b : Addr) (kc : ClassId), Cx p l e R s m args below meth c Z EL kn y bytes maxL ret ws T' h' k' n' → Ext h h' → Exa Z h' a "java/lang/String" → Fld Z h' a "java/lang/String" "coder" "B" (.int 0) → Fld Z h' a "java/lang/String" "value" "[B" (.ref b) → Arv Z h' b kc .byte z vs (.int 0) → (∀ x ∈ ws, x ≠ a ∧ x ≠ b) → Go p e below Q T' (mkF m pc' L (.ref a :: S))) : Go p e below Q T (mkF m pc L S) := by
  subst hp
  obtain ⟨c0, vm0, k0, locs, St, eT, hZ, hown, hS, hk, N, H, hsf, E, hkn⟩ := X
  obtain ⟨a, T', h', k1, b, kc, X', e', E', hS', hk1, hZ', hown', A1, A2, A3, A4, l1, l2, C, -, sf, st⟩ := ldcCH St c0.1 hZ hown w wS eT hS hk hEL hmem H.1 ht hz hl (g := mkF m pc L S) rfl (hb c0.2.1 hd) hnn hbig (Nat.le_trans hk' hkR) (Nat.le_trans hn' hnR)
  have al : vm0.Alike T'.vm := hS.1.alike.symm.trans hS'.1.alike
  exact Go.of st (K T' h' a b kc ⟨c0, T'.vm, k1, _, X'.mono hk' hn', e', hZ', hown', hS', hk1, N, H.trans C, fun x q => ⟨C.safe (hsf x q).2 (hsf x q).1, Nat.lt_of_lt_of_le (hsf x q).2 E'.1⟩, ext_trans E E', fun q => ⟨Vm.MethodsKnown.alikeC al (hkn q).1, fun fr hfr m' hm' => knowsMethod_alike al ((hkn q).2 fr hfr m' hm')⟩⟩ E' A1 A2 A3 A4 (fun x q => sf x (C.safe (hsf x q).2 (hsf x q).1)))
/-- an array's clone -/
theorem s_clone (X : Cx p l e R s m args below meth c Z EL kn y bytes maxL ret ws T h k n) {index : Nat} {ad : String} {a : Addr} {ty : FieldType} {vs : List Value} {W k' n' : Nat} (hd : decode bytes pc = .ok (.invokevirtual index, 3))
    (w1 : (Cond.methodLink y.cls index ⟨ad, "clone", "()Ljava/lang/Object;"⟩).before a0 Z = true) (w2 : (Cond.sameMethod ad "java/lang/Object" "clone" "()Ljava/lang/Object;").before a0 Z = true) (w3 : (Cond.native ⟨"java/lang/Object", "clone", "()Ljava/lang/Object;"⟩).before a0 Z = true)
    (w4 : (Cond.instanceMethod ⟨"java/lang/Object", "clone", "()Ljava/lang/Object;"⟩).before a0 Z = true) (w5 : (Cond.selects ad ⟨ad, "clone", "()Ljava/lang/Object;"⟩ ⟨"java/lang/Object", "clone", "()Ljava/lang/Object;"⟩).before a0 Z = true) (w6 : (Cond.castable ad "java/lang/Cloneable").before a0 Z = true)
    (A : Ary Z h a ty vs) (E0 : Exa Z h a ad) (hsz : L.size = maxL) (hW : (S.map fun v => v.category).sum ≤ W) (hf : 1 ≤ R.frames) (hl : W + 14 ≤ R.locals) (hk' : k + 1 ≤ k') (hn' : n + vs.length ≤ n') (hkR : k' ≤ R.cells) (hnR : n' ≤ R.slots) (hp : pc + 3 = pc')
    (K : ∀ (T' : State) (h' : Heap) (b : Addr), b = h.size → Cx p l e R s m args below meth c Z EL kn y bytes maxL ret (b :: ws) T' h' k' n' → Ext h h' → Ary Z h' b ty vs → Exa Z h' b ad → Go p e below Q T' (mkF m pc' L (.ref b :: S))) : Go p e below Q T (mkF m pc L (.ref a :: S)) := by
  subst hp
  have hv : vs.length < 2 ^ 31 := by obtain ⟨_, _, _, q, _⟩ := A; exact q
  obtain ⟨kc, F⟩ := A.arv .null
  obtain ⟨c0, vm0, k0, locs, St, eT, hZ, hown, hS, hk, N0, H, hsf, E, hkn⟩ := X
  obtain ⟨T', h', X', e', E', F', E1, st⟩ := cloneH St c0.1 hZ hown w1 w2 w3 w4 w5 w6 eT F.arh E0 (g := mkF m pc L (.ref a :: S)) rfl (hsz.trans c0.2.2.1.symm) rfl (hb c0.2.1 hd) hf (by show 2 * 0 + _ ≤ _; omega) hl (cap := vs.length) (Nat.le_of_eq (n32 hv)) (Nat.le_trans hk' hkR) (Nat.le_trans hn' hnR)
  have A' : Ary Z h' h.size ty vs := Ary.of_arv (show Arv Z h' h.size kc ty _ vs .null from F') (n32 hv) hv
  refine Go.of st (K T' h' h.size rfl ⟨c0, vm0, k0, _, X'.mono hk' hn', e', hZ, hown, hS, Nat.le_trans hk E'.1, N0, H.trans (CHr.ext E' H.1), fun x q => ?_, ext_trans E E', hkn⟩ E' A' E1)
  rcases List.mem_cons.mp q with rfl | q
  · exact ⟨Safe.ext E' H.1 (Safe.new (Nat.le_refl _)), A'.lt⟩
  · exact ⟨Safe.ext E' H.1 (hsf x q).1, Nat.lt_of_lt_of_le (hsf x q).2 E'.1⟩
/-- what the elements of an array are worth at the start -/
def ElemsL (a1 : Array Value) (Z : State) (t : Term) : Nat → List Value → Prop
  | _, [] => True
  | i, v :: r => (Term.elem t (.int (Int32.ofNat i))).eval a1 Z none [] Z = some v ∧ ElemsL a1 Z t (i + 1) r
theorem ElemsL.has {a1 : Array Value} {t : Term} {a : Addr} {cl : Cell} (ev : t.eval a1 Z none [] Z = some (.ref a)) (hc : Z.heap[a]? = some cl) : ∀ (vs : List Value) (i : Nat), i + vs.length < 2 ^ 31 → ElemsL a1 Z t i vs → HasL cl i vs
  | [], _, _, _ => trivial
  | v :: r, i, hi, q => by
    have hi' : i + (r.length + 1) < 2 ^ 31 := hi
    have z := (elem_in q.1 ev (Term.int_eval _) hc).2
    rw [n32 (by omega)] at z
    exact ⟨z, ElemsL.has ev hc r (i + 1) (by omega) q.2⟩
theorem ary_start {a1 : Array Value} {t : Term} {a : Addr} {ty : FieldType} {z : Int32} {vs : List Value} (hf : Fit Z) (ev : t.eval a1 Z none [] Z = some (.ref a)) (hA : (Jvm.Cond.arrayOf t ty).value a1 Z none Z [] = some true) (hl : (Jvm.Cond.eq (Term.length t) (.int z)).value a1 Z none Z [] = some true) (hz : z = Int32.ofNat vs.length) (hv : vs.length < 2 ^ 31) (he : ElemsL a1 Z t 0 vs) : Ary Z Z.heap a ty vs := by
  obtain ⟨cl, A⟩ := Arr.start ev hA
  obtain ⟨v, h1, h2⟩ := Cond.eq_worth hl
  cases (Term.int_eval (args := a1) (first := Z) (o := none) (idx := []) (s := Z) z).symm.trans h2
  have hs : cl.slots.size < 2 ^ 31 ∧ cl.slots.size.toInt32 = z := by
    simp only [Term.eval, Option.bind_eq_bind, ev, Option.bind_some] at h1
    obtain ⟨cell, hcell, h1⟩ := Option.bind_eq_some_iff.mp h1
    cases A.1.symm.trans (State.arrayAt?_spec hcell).1
    by_cases hn : cl.slots.size < 2147483648
    · rw [if_pos hn] at h1; injection h1 with h1; injection h1 with h1; exact ⟨hn, h1⟩
    · rw [if_neg hn] at h1; cases h1
  subst hz
  exact Ary.of_arv (Arv.start (dv := .null) hf A hs.1 hs.2 (nn32 hv) (n32 hv) (ElemsL.has ev A.1 vs 0 (by omega) he)) (n32 hv) hv
theorem same_of {yy y' : MethodName} {C : String} (w : (Cond.declares yy).before a0 Z = true) (ws' : (Cond.selects C y' y').before a0 Z = true) (hc : y'.cls = yy.cls) (hy : yy.cls ≠ "java/lang/invoke/MethodHandle" ∧ yy.cls ≠ "java/lang/invoke/VarHandle") : (Cond.sameMethod yy.cls yy.cls yy.name yy.desc).before a0 Z = true := by
  obtain ⟨r0, r, hn, -⟩ := Cond.declares_spec w
  obtain ⟨c2, r2, m2, -, -, q3, -, kP, hkP, hkPi⟩ := Cond.selects_spec ws'
  have e1 := findClass_of_methodNamed hn
  have e2 := findClass_of_methodNamed q3
  rw [hc] at e2
  have e3 := State.methodFound?_of_named hn hy
  have hcl : r0.cls = m2.cls := Option.some.inj (e1.symm.trans e2)
  have hn' : Z.methodNamed? ⟨yy.cls, yy.name, yy.desc⟩ = some r0 := hn
  simp [Cond.before, Cond.holds, Cond.value, e1, e3, hn', hcl, hkP, hkPi]
/-- a method of the superclass, called by 'super.' -/
theorem s_super (X : Cx p l e R s m args below meth c Z EL kn y bytes maxL ret ws T h k n) {index : Nat} {K0 : String} {z : MethodName} {b' : ByteArray} {mL' : Nat} {r' : Option FieldType} {W ck sk : Nat} {a : Addr} {as' : List Value} {Qc : Option Value → Heap → List Addr → Prop} {ps : List FieldType} {rr : Option FieldType} {stk : List Value} {k' n' : Nat} (hd : decode bytes pc = .ok (.invokespecial index, 3))
    (w1 : (Jvm.Cond.methodLink y.cls index z).before a0 Z = true) (w2 : (Jvm.Cond.sameMethod z.cls z.cls z.name z.desc).before a0 Z = true) (w3 : (Jvm.Cond.instanceMethod z).before a0 Z = true) (w4 : (Jvm.Cond.superclass y.cls z.cls).before a0 Z = true) (w5 : (Jvm.Cond.code z b' mL' r').before a0 Z = true) (hz : z.name ≠ "<init>") (hpd : parseMethodDescriptor z.desc = some ⟨ps, rr⟩) (hlen : as'.length = ps.length) (F : Ins Z h a K0 true)
    (P : Pay l R p e below s args Z EL kn ws z 3 W ck sk (.ref a :: as').toArray h Qc) (hW : (S.map fun v => v.category).sum ≤ W) (hsz : L.size = maxL) (hst : stk = as'.reverse ++ .ref a :: S) (hk' : k + ck ≤ k') (hn' : n + sk ≤ n') (hkR : k' ≤ R.cells) (hnR : n' ≤ R.slots) (hp : pc + 3 = pc')
    (K : ∀ T' h' v ws', Cx p l e R s m args below meth c Z EL kn y bytes maxL ret (ws' ++ ws) T' h' k' n' → h.size ≤ h'.size → Qc v h' ws' → Go p e below Q T' (mkF m pc' L (v.toList ++ S))) : Go p e below Q T (mkF m pc L stk) := by
  subst hp; subst hst
  obtain ⟨c0, vm0, k0, locs, St, eT, hZ, hown, hS, hk, N, H, hsf, E, hkn⟩ := X
  have hP := P vm0 hZ H.1 hsf E hkn
  obtain ⟨v, vm₁, B, hw, X', h2, hgr, ⟨L', ws', q1, q2, q3, q4, q5, q6, q7, q8⟩, st⟩ := superBackS (Z := Z) (K := K0) St c0.1 hZ hown w1 w2 w3 w4 hz hP eT F (g := mkF m pc L (as'.reverse ++ .ref a :: S)) rfl (hsz.trans c0.2.2.1.symm) w5 (lenOf hpd hlen) rfl (by show 2 * 0 + _ ≤ _; omega) (hb c0.2.1 hd) (fun _ _ => ⟨rfl, eT, Nat.le_trans hk' hkR, Nat.le_trans hn' hnR⟩)
  obtain ⟨U, Lb, kb, nb⟩ := B
  dsimp only [Pt.U, Pt.locs, Pt.cells, Pt.slots] at X' h2 hgr q1 q2 q3 q4 q5 q6 q7 q8 st
  subst q4 q5 q6
  rw [eT] at hgr
  exact Go.of (fun t q => st.trans q) (K U U.heap v ws' ((after c0 X' hZ hown hS hk N H hsf hkn h2 hgr q2 q3 q7 q8).more hk' hn') hgr q1)
theorem privBackS' {locs : List Loc} {cells slots : Nat} (X : Stand p l e R s m args below meth c T locs cells slots) (hexec : p.tables.exec = Jvm.exec) {own : String} {index : Nat} {yy : MethodName} {by' : ByteArray} {mL' : Nat} {r' : Option FieldType}
    (hown : s.vm.findClass own = some m.cls) (hlink : (Cond.methodLink own index yy).before args s = true) (hinst : (Cond.instanceMethod yy).before args s = true) (hnf : NotFace s yy)
    (hpriv : s.PrivateAt yy) (hcode : (Cond.code yy by' mL' r').before args s = true) (hy : yy.cls ≠ "java/lang/invoke/MethodHandle" ∧ yy.cls ≠ "java/lang/invoke/VarHandle")
    {W : Nat} {Pre : Free.Pt → Array Value → Prop} {Post : Free.Pt → Array Value → Option Value → Free.Pt → Prop} (hK : Free.BackS l R p e below s args yy 3 W Pre Post)
    {g : JFrame} (hg : g.method = m) (hsize : g.locals.size = c.maxLocals) {a : Addr} {cell : Cell} (hcell : T.heap[a]? = some cell) (hobj : ∀ q, cell.vm ≠ .statics q)
    {argsL rest : List Value} (hlen : ∀ sig, parseMethodDescriptor yy.desc = some sig → argsL.length = sig.parameters.length)
    (hstack : g.stack = argsL.reverse ++ .ref a :: rest) (hW : 2 * g.monitorRoom + (rest.map fun v => v.category).sum ≤ W) (hdg : decode c.code g.pc = .ok (.invokevirtual index, 3))
    (hpre : ∀ vm₁, s.WarmedH vm₁ → Pre ⟨T.setVm vm₁, locs, cells, slots⟩ (.ref a :: argsL).toArray) :
    ∃ (v : Option Value) (vm₁ : Vm) (B : Free.Pt), s.WarmedH vm₁ ∧ Stand p l e R (s.setVm B.U.vm) m args below meth c B.U B.locs B.cells B.slots ∧ s.Since B.U.vm B.U.heap.size ∧ T.heap.size ≤ B.U.heap.size ∧ Post ⟨T.setVm vm₁, locs, cells, slots⟩ (.ref a :: argsL).toArray v B ∧
      Steps p.tables e below (T.setTop g) (B.U.setTop { g with pc := g.pc + 3, stack := v.toList ++ rest }) := by
  obtain ⟨mk, methM, hnamed, hmethM, hstM, habM⟩ := Cond.instanceMethod_spec hinst
  obtain ⟨methM', cM, hmethM', -, -, -, -, -, -, hsigM⟩ := Cond.code_spec hnamed hcode
  cases hmethM.symm.trans hmethM'
  obtain ⟨kP, hkP, hkPi⟩ := hnf mk hnamed
  have hselP : selectMethod e.platform s.vm cell.cls mk = .method mk := selectMethod_private hmethM (hpriv mk methM hnamed hmethM)
  obtain ⟨vm₁, X₁, hstep₁⟩ := X.invokevirtual hexec hown hlink hnamed hmethM hstM hkP hkPi hy (a := a) (cell := cell) hcell hobj hselP hmethM habM hkP hkPi (g := g) hg (argsL := argsL) (rest := rest) (hlen _ hsigM) hstack hdg
  obtain ⟨v, B, X', hS, hgr, hpost, hsteps⟩ := hK m meth c ⟨T.setVm vm₁, locs, cells, slots⟩ { g with stack := rest } (.invokevirtual index) mk (.ref a :: argsL).toArray X₁ hg hsize hdg hW (X₁.named hnamed) (hpre vm₁ X₁.warmed)
  exact ⟨v, vm₁, B, X₁.warmed, X', hS, hgr, hpost, (hstep₁ _ fun acts => by rw [doInvoke_state]; exact Steps.refl _).trans hsteps⟩
/-- a private method, called by 'invokevirtual' -/
theorem s_priv (X : Cx p l e R s m args below meth c Z EL kn y bytes maxL ret ws T h k n) {index : Nat} {C' : String} {z : MethodName} {b' : ByteArray} {mL' : Nat} {r' : Option FieldType} {W ck sk : Nat} {a : Addr} {as' : List Value} {Qc : Option Value → Heap → List Addr → Prop} {ps : List FieldType} {rr : Option FieldType} {stk : List Value} {k' n' : Nat} (hd : decode bytes pc = .ok (.invokevirtual index, 3))
    (w1 : (Jvm.Cond.methodLink y.cls index z).before a0 Z = true) (w2 : (Jvm.Cond.privateMethod z).before a0 Z = true) (nf : ∀ s : State, Z.Warmed39 s.vm → NotFace s z) (w4 : (Jvm.Cond.instanceMethod z).before a0 Z = true) (w5 : (Jvm.Cond.code z b' mL' r').before a0 Z = true) (hz : z.cls ≠ "java/lang/invoke/MethodHandle" ∧ z.cls ≠ "java/lang/invoke/VarHandle") (hpd : parseMethodDescriptor z.desc = some ⟨ps, rr⟩) (hlen : as'.length = ps.length) (E0 : Exa Z h a C')
    (P : Pay l R p e below s args Z EL kn ws z 3 W ck sk (.ref a :: as').toArray h Qc) (hW : (S.map fun v => v.category).sum ≤ W) (hsz : L.size = maxL) (hst : stk = as'.reverse ++ .ref a :: S) (hk' : k + ck ≤ k') (hn' : n + sk ≤ n') (hkR : k' ≤ R.cells) (hnR : n' ≤ R.slots) (hp : pc + 3 = pc')
    (K : ∀ T' h' v ws', Cx p l e R s m args below meth c Z EL kn y bytes maxL ret (ws' ++ ws) T' h' k' n' → h.size ≤ h'.size → Qc v h' ws' → Go p e below Q T' (mkF m pc' L (v.toList ++ S))) : Go p e below Q T (mkF m pc L stk) := by
  subst hp; subst hst
  obtain ⟨c0, vm0, k0, locs, St, eT, hZ, hown, hS, hk, N, H, hsf, E, hkn⟩ := X
  have hP := P vm0 hZ H.1 hsf E hkn
  have hZ' : Z.Warmed39 (s.setVm vm0).vm := hZ
  obtain ⟨cq, kq, qa, -, cl, qb, -, qd⟩ := isOf hZ' eT E0
  obtain ⟨v, vm₁, B, hw, X', h2, hgr, ⟨L', ws', q1, q2, q3, q4, q5, q6, q7, q8⟩, st⟩ := privBackS' St c0.1 hown (mvT hZ w1) (mvT hZ w4) (nf (s.setVm vm0) hZ) (Cond.privateMethod_at (mvP (args := args) hZ' w2)) (mvT hZ w5) hz hP (g := mkF m pc L (as'.reverse ++ .ref a :: S)) rfl (hsz.trans c0.2.2.1.symm) qb (fun z h => by rw [h] at qd; cases qd) (lenOf hpd hlen) rfl (by show 2 * 0 + _ ≤ _; omega) (hb c0.2.1 hd) (fun _ _ => ⟨rfl, eT, Nat.le_trans hk' hkR, Nat.le_trans hn' hnR⟩)
  obtain ⟨U, Lb, kb, nb⟩ := B
  dsimp only [Pt.U, Pt.locs, Pt.cells, Pt.slots] at X' h2 hgr q1 q2 q3 q4 q5 q6 q7 q8 st
  subst q4 q5 q6
  rw [eT] at hgr
  exact Go.of (fun t q => st.trans q) (K U U.heap v ws' ((after c0 X' hZ hown hS hk N H hsf hkn h2 hgr q2 q3 q7 q8).more hk' hn') hgr q1)
/-- System.arraycopy between two arrays of one primitive kind -/
theorem s_acopy (X : Cx p l e R s m args below meth c Z EL kn y bytes maxL ret ws T h k n) {index : Nat} {a b : Addr} {ty : FieldType} {vs vd : List Value} {sp dp nn : Nat} {zs zd zn : Int32} {W : Nat} (hd : decode bytes pc = .ok (.invokestatic index, 3))
    (w1 : (Cond.methodLink y.cls index Jvm.Stand.acN).before a0 Z = true) (w2 : (Cond.native Jvm.Stand.acN).before a0 Z = true) (w3 : (Cond.static Jvm.Stand.acN).before a0 Z = true) (w4 : (Cond.initialized "java/lang/System").before a0 Z = true)
    (A : Ary Z h a ty vs) (B : Ary Z h b ty vd) (hty : refKind ty = false) (hs1 : zs = Int32.ofNat sp) (hs2 : zd = Int32.ofNat dp) (hs3 : zn = Int32.ofNat nn) (h4 : sp + nn ≤ vs.length) (h5 : dp + nn ≤ vd.length) (ge : Z.heap.size ≤ b) (hm : b ∈ ws)
    (hsz : L.size = maxL) (hW : (S.map fun v => v.category).sum ≤ W) (hf : 1 ≤ R.frames) (hlo : W + 18 ≤ R.locals) (hp : pc + 3 = pc')
    (K : ∀ (T' : State) (h' : Heap), Cx p l e R s m args below meth c Z EL kn y bytes maxL ret ws T' h' k n → Keep h h' [b] → Ary Z h' b ty (vd.take dp ++ (vs.drop sp).take nn ++ vd.drop (dp + nn)) → Go p e below Q T' (mkF m pc' L S)) : Go p e below Q T (mkF m pc L (.int zn :: .int zd :: .ref b :: .int zs :: .ref a :: S)) := by
  subst hp; subst hs1; subst hs2; subst hs3
  have hv : vs.length < 2 ^ 31 := by obtain ⟨_, _, _, q, _⟩ := A; exact q
  have hvd : vd.length < 2 ^ 31 := by obtain ⟨_, _, _, q, _⟩ := B; exact q
  obtain ⟨kc, FA⟩ := A.arv .null
  obtain ⟨kd, FB⟩ := B.arv .null
  have eus : (vs.drop sp).take nn = (List.range nn).map fun i => vs.getD (sp + i) .null := by
    apply List.ext_getElem?
    intro i
    by_cases q : i < nn
    · rw [List.getElem?_take_of_lt q, List.getElem?_drop, List.getElem?_map, List.getElem?_range q]
      have q2 : sp + i < vs.length := by omega
      simp [List.getElem?_eq_getElem q2, List.getD_eq_getElem?_getD]
    · rw [List.getElem?_eq_none (by rw [List.length_take]; omega), List.getElem?_eq_none (by simp; omega)]
  obtain ⟨c0, vm0, k0, locs, St, eT, hZ, hown, hS, hk, N, H, hsf, E, hkn⟩ := X
  have n1 := n32 (N := sp) (by omega); have n2 := n32 (N := dp) (by omega); have n3 := n32 (N := nn) (by omega); have n4 := n32 hv; have n5 := n32 hvd
  obtain ⟨T', h', L', X', e', N', K', B', st⟩ := cpA St c0.1 hZ hown w1 w2 w3 w4 eT FA FB (us := (vs.drop sp).take nn) (sp := Int32.ofNat sp) (dp := Int32.ofNat dp) (nn := Int32.ofNat nn) (Or.inl ⟨rfl, hty⟩) (nn32 (by omega)) (nn32 (by omega)) (nn32 (by omega)) (by rw [n1, n3, n4]; exact h4) (by rw [n2, n3, n5]; exact h5) (by rw [n1, n3]; exact eus) (by rw [n2, n3]; exact h5) N ge (g := mkF m pc L (.int (Int32.ofNat nn) :: .int (Int32.ofNat dp) :: .ref b :: .int (Int32.ofNat sp) :: .ref a :: S)) rfl (hsz.trans c0.2.2.1.symm) rfl (hb c0.2.1 hd) hf (W := W) (by show 2 * 0 + _ ≤ _; omega) (by exact hlo)
  rw [n2, n3] at B'
  have Sa : ∀ x ∈ [b], Safe Z EL vm0 h x := fun x hx => by rw [List.mem_singleton.mp hx]; exact (hsf b hm).1
  have ul : (vd.take dp ++ (vs.drop sp).take nn ++ vd.drop (dp + nn)).length = vd.length := by simp; omega
  refine Go.of st (K T' h' ⟨c0, vm0, k0, _, X', e', hZ, hown, hS, Nat.le_trans hk K'.1, N', H.trans (CHr.keep K' Sa H.1), fun x q => ⟨Safe.keep K' Sa H.1 (hsf x q).1, Nat.lt_of_lt_of_le (hsf x q).2 K'.1⟩, ext_keep E K' (allS ge all0), hkn⟩ K' (Ary.of_arv B' (by rw [n5]; exact ul.symm) (by rw [ul]; exact hvd)))
theorem nfaceC {C : String} {z y' : MethodName} (w : (Jvm.Cond.selects C y' y').before a0 Z = true) (hc : y'.cls = z.cls) : ∀ s : State, Z.Warmed39 s.vm → NotFace s z := fun s hZ mk hn => by
  obtain ⟨c2, r2, m2, -, -, q3, -, kP, hkP, hkPi⟩ := Cond.selects_spec (mvT (args := #[]) hZ w)
  have e1 := findClass_of_methodNamed hn
  have e2 := findClass_of_methodNamed q3
  rw [hc] at e2
  have hcl : mk.cls = m2.cls := Option.some.inj (e1.symm.trans e2)
  exact ⟨kP, by rw [hcl]; exact hkP, hkPi⟩
/-- an exception's constructor (message): the JDK's chain, by the library's law -/
theorem s_exc1 (X : Cx p l e R s m args below meth c Z EL kn y bytes maxL ret ws T h k n) (hkk : kn) (hl : l.stackTraces = true) {rc : String} {links : List Jvm.Free.Exc.Link} {ic ni : Nat} {a : Addr} {msg : Value} {k' n' : Nat} (hok : Jvm.Free.Exc.linksOk 1 links = true) (hd : decode bytes pc = .ok (.invokespecial ic, 3))
    (w1 : (Cond.methodLink y.cls ic (Jvm.Free.Exc.ctor 1 (Jvm.Free.Exc.headName links))).before a0 Z = true) (w2 : (Cond.instanceMethod (Jvm.Free.Exc.ctor 1 (Jvm.Free.Exc.headName links))).before a0 Z = true) (wT : (Jvm.Free.Exc.chainTab 1 rc links).before a0 Z = true) (wi : (Cond.instantiable rc ni).before a0 Z = true) (r : ∀ d ∈ twoRefs, d.before a0 Z = true)
    (E0 : Exa Z h a rc) (N0 : Unt h a) (B : Fld Z h a Bundle.tN "backtrace" Jvm.Free.Exc.obD .null) (B2 : Fld Z h a Bundle.tN "detailMessage" Jvm.Free.Exc.msgD .null) (hmsg : msg.isRef = true) (ge : Z.heap.size ≤ a) (hm : a ∈ ws)
    (hsz : L.size = maxL) (hf : 4 + links.length ≤ R.frames) (hlo : (S.map fun v => v.category).sum + (56 + 14 * links.length) ≤ R.locals) (hk' : k + 1 ≤ k') (hn' : n + 2752 ≤ n') (hkR : k' ≤ R.cells) (hnR : n' ≤ R.slots) (hp : pc + 3 = pc')
    (K : ∀ (T' : State) (h' : Heap), Cx p l e R s m args below meth c Z EL kn y bytes maxL ret ws T' h' k' n' → Kp Z h h' a → Exa Z h' a rc → Unt h' a → Fld Z h' a Bundle.tN "detailMessage" Jvm.Free.Exc.msgD msg → Fld Z h' a Bundle.tN "cause" Jvm.Free.Exc.thD (.ref a) → Go p e below Q T' (mkF m pc' L S)) : Go p e below Q T (mkF m pc L (msg :: .ref a :: S)) := by
  subst hp
  obtain ⟨c0, vm0, k0, locs, St, eT, hZ, hown, hS, hk, N, H, hsf, E, hkn⟩ := X
  obtain ⟨T', h', X', e', K', E1, N1, F1, F2, -, st⟩ := excL1 St c0.1 hl hZ hown hok w1 w2 wT wi r (ThS.start.ext c0.2.2.2.2.2.2) (ThS.start.ext E) (hkn hkk).1 (hkn hkk).2 eT E0 N0 B B2 hmsg (g := mkF m pc L (msg :: .ref a :: S)) rfl (hsz.trans c0.2.2.1.symm) rfl (hb c0.2.1 hd) hf (by show 2 * 0 + _ + _ ≤ _; omega) (Nat.le_trans hk' hkR) (Nat.le_trans hn' hnR)
  have Kk := keep_of_kp K'
  have Sa : ∀ x ∈ [a], Safe Z EL vm0 h x := fun x hx => by rw [List.mem_singleton.mp hx]; exact (hsf a hm).1
  exact Go.of st (K T' h' ⟨c0, vm0, k0, _, X'.mono hk' hn', e', hZ, hown, hS, Nat.le_trans hk Kk.1, Fr.six N ge, H.trans (CHr.keep Kk Sa H.1), fun x q => ⟨Safe.keep Kk Sa H.1 (hsf x q).1, Nat.lt_of_lt_of_le (hsf x q).2 Kk.1⟩, ext_keep E Kk (allS ge all0), hkn⟩ K' E1 N1 F1 F2)
/-- an exception's constructor (message, cause) -/
theorem s_exc2 (X : Cx p l e R s m args below meth c Z EL kn y bytes maxL ret ws T h k n) (hkk : kn) (hl : l.stackTraces = true) {rc : String} {links : List Jvm.Free.Exc.Link} {ic ni : Nat} {a : Addr} {msg cz : Value} {k' n' : Nat} (hok : Jvm.Free.Exc.linksOk 2 links = true) (hd : decode bytes pc = .ok (.invokespecial ic, 3))
    (w1 : (Cond.methodLink y.cls ic (Jvm.Free.Exc.ctor 2 (Jvm.Free.Exc.headName links))).before a0 Z = true) (w2 : (Cond.instanceMethod (Jvm.Free.Exc.ctor 2 (Jvm.Free.Exc.headName links))).before a0 Z = true) (wT : (Jvm.Free.Exc.chainTab 2 rc links).before a0 Z = true) (wi : (Cond.instantiable rc ni).before a0 Z = true) (r : ∀ d ∈ twoRefs, d.before a0 Z = true)
    (E0 : Exa Z h a rc) (N0 : Unt h a) (B : Fld Z h a Bundle.tN "backtrace" Jvm.Free.Exc.obD .null) (B2 : Fld Z h a Bundle.tN "detailMessage" Jvm.Free.Exc.msgD .null) (hmsg : msg.isRef = true) (hcz : cz.isRef = true) (ge : Z.heap.size ≤ a) (hm : a ∈ ws)
    (hsz : L.size = maxL) (hf : 4 + links.length ≤ R.frames) (hlo : (S.map fun v => v.category).sum + (56 + 14 * links.length) ≤ R.locals) (hk' : k + 1 ≤ k') (hn' : n + 2752 ≤ n') (hkR : k' ≤ R.cells) (hnR : n' ≤ R.slots) (hp : pc + 3 = pc')
    (K : ∀ (T' : State) (h' : Heap), Cx p l e R s m args below meth c Z EL kn y bytes maxL ret ws T' h' k' n' → Kp Z h h' a → Exa Z h' a rc → Unt h' a → Fld Z h' a Bundle.tN "detailMessage" Jvm.Free.Exc.msgD msg → Fld Z h' a Bundle.tN "cause" Jvm.Free.Exc.thD cz → Go p e below Q T' (mkF m pc' L S)) : Go p e below Q T (mkF m pc L (cz :: msg :: .ref a :: S)) := by
  subst hp
  obtain ⟨c0, vm0, k0, locs, St, eT, hZ, hown, hS, hk, N, H, hsf, E, hkn⟩ := X
  obtain ⟨T', h', X', e', K', E1, N1, F1, F2, -, st⟩ := excL2 St c0.1 hl hZ hown hok w1 w2 wT wi r (ThS.start.ext c0.2.2.2.2.2.2) (ThS.start.ext E) (hkn hkk).1 (hkn hkk).2 eT E0 N0 B B2 hmsg hcz (g := mkF m pc L (cz :: msg :: .ref a :: S)) rfl (hsz.trans c0.2.2.1.symm) rfl (hb c0.2.1 hd) hf (by show 2 * 0 + _ + _ ≤ _; omega) (Nat.le_trans hk' hkR) (Nat.le_trans hn' hnR)
  have Kk := keep_of_kp K'
  have Sa : ∀ x ∈ [a], Safe Z EL vm0 h x := fun x hx => by rw [List.mem_singleton.mp hx]; exact (hsf a hm).1
  exact Go.of st (K T' h' ⟨c0, vm0, k0, _, X'.mono hk' hn', e', hZ, hown, hS, Nat.le_trans hk Kk.1, Fr.six N ge, H.trans (CHr.keep Kk Sa H.1), fun x q => ⟨Safe.keep Kk Sa H.1 (hsf x q).1, Nat.lt_of_lt_of_le (hsf x q).2 Kk.1⟩, ext_keep E Kk (allS ge all0), hkn⟩ K' E1 N1 F1 F2)
/-- a new array of a primitive kind, its class said -/
theorem s_newarrE (X : Cx p l e R s m args below meth c Z EL kn y bytes maxL ret ws T h k n) {aty : ArrayType} {z : Int32} {N : Nat} {k' n' : Nat} {ad : String} (hd : decode bytes pc = .ok (.newarray aty, 2)) (w : (Cond.arrayClass (newarray.typeOf aty)).before a0 Z = true) (hz : z = Int32.ofNat N) (hN : N ≤ 67108864) (had : "[" ++ (newarray.typeOf aty).toString = ad)
    (hk' : k + 1 ≤ k') (hn' : n + N ≤ n') (hkR : k' ≤ R.cells) (hnR : n' ≤ R.slots) (hp : pc + 2 = pc')
    (K : ∀ (T' : State) (h' : Heap) (a : Addr), a = h.size → Cx p l e R s m args below meth c Z EL kn y bytes maxL ret (a :: ws) T' h' k' n' → Ext h h' → Ary Z h' a (newarray.typeOf aty) (List.replicate N (defaultValue (newarray.typeOf aty))) → Exa Z h' a ad → Go p e below Q T' (mkF m pc' L (.ref a :: S))) : Go p e below Q T (mkF m pc L (.int z :: S)) := by
  subst hp; subst hz
  have hN' : N < 2 ^ 31 := by omega
  obtain ⟨c0, vm0, k0, locs, St, eT, hZ, hown, hS, hk, N0, H, hsf, E, hkn⟩ := X
  obtain ⟨T', h', cA, X', e', E', A, Ex, st⟩ := newPE St c0.1 hZ w eT (g := mkF m pc L (.int (Int32.ofNat N) :: S)) rfl (hb c0.2.1 hd) rfl (nn32 hN') (cap := N) (Nat.le_of_eq (n32 hN')) (by omega) (Nat.le_trans hk' hkR) (Nat.le_trans hn' hnR) had
  refine Go.of st (K T' h' h.size rfl ⟨c0, vm0, k0, _, X'.mono hk' hn', e', hZ, hown, hS, Nat.le_trans hk E'.1, N0, H.trans (CHr.ext E' H.1), fun x q => ?_, ext_trans E E', hkn⟩ E' ⟨_, A, ?_, by simpa using hN', ?_⟩ Ex)
  · rcases List.mem_cons.mp q with rfl | q
    · exact ⟨Safe.ext E' H.1 (Safe.new (Nat.le_refl _)), A.lt⟩
    · exact ⟨Safe.ext E' H.1 (hsf x q).1, Nat.lt_of_lt_of_le (hsf x q).2 E'.1⟩
  · simp [newA, n32 hN']
  · intro v hv
    rw [(List.mem_replicate.mp hv).2]
    cases aty <;> rfl
/-- an array at the start, her contents unsaid -/
theorem ary_any {a1 : Array Value} {t : Term} {a : Addr} {ty : FieldType} {z : Int32} {N : Nat} (hf : Fit Z) (ev : t.eval a1 Z none [] Z = some (.ref a)) (hA : ∃ cl, RoadKit.Arr Z Z.heap a cl ty) (hl : (Jvm.Cond.eq (Term.length t) (.int z)).value a1 Z none Z [] = some true) (hz : z = Int32.ofNat N) (hN : N < 2 ^ 31) : ∃ vs, Ary Z Z.heap a ty vs ∧ vs.length = N := by
  obtain ⟨cl, A⟩ := hA
  obtain ⟨v, h1, h2⟩ := Cond.eq_worth hl
  cases (Term.int_eval (args := a1) (first := Z) (o := none) (idx := []) (s := Z) z).symm.trans h2
  have hs : cl.slots.size < 2 ^ 31 ∧ cl.slots.size.toInt32 = z := by
    simp only [Term.eval, Option.bind_eq_bind, ev, Option.bind_some] at h1
    obtain ⟨cell, hcell, h1⟩ := Option.bind_eq_some_iff.mp h1
    cases A.1.symm.trans (State.arrayAt?_spec hcell).1
    by_cases hn : cl.slots.size < 2147483648
    · rw [if_pos hn] at h1; injection h1 with h1; injection h1 with h1; exact ⟨hn, h1⟩
    · rw [if_neg hn] at h1; cases h1
  have hsz : cl.slots.size = N := by
    have e1 : cl.slots.size.toInt32.toInt = cl.slots.size := len_toInt hs.1
    have e2 : (Int32.ofNat N).toInt = N := Int32.toInt_ofNat_of_lt (by omega)
    rw [hs.2, hz, e2] at e1
    omega
  refine ⟨cl.slots.toList, ⟨cl, A, rfl, by simpa using hs.1, fun v hv => ?_⟩, by simpa using hsz⟩
  obtain ⟨i, hi, hv⟩ := List.getElem_of_mem hv
  have hi' : i < cl.slots.size := by simpa using hi
  have e1 : (Nat.toInt32 i).toNatClampNeg = i := by simp only [Int32.toNatClampNeg, len_toInt (Nat.lt_trans hi' hs.1)]; rfl
  exact elem_fits (j := Nat.toInt32 i) hf A (idx_in hi' hs.1) (by rw [e1, ← hv]; simp [hi'])
section Thr
open Bundle Jvm.Free.Exc LibCode.Throwable
/-- Throwable's words as the sheets of k581 give them: all of the library's but 'lays' of suppressedExceptions in Throwable itself -/
def thrWords : List Jvm.Cond := throwableAtoms.eraseIdx 18
theorem thrLinks {a1 : Array Value} {s : State} {pl : Platform} {rc : String} (howns : pl.frameOwnsMonitors = true) (hfin : pl.finalization = false) (hpl : pl.magicAccessors = ({} : Platform).magicAccessors)
    (h : ∀ w ∈ thrWords, w.before a1 s = true) (hs : (Jvm.Cond.lays rc tN "suppressedExceptions" listD).before a1 s = true) (hst : (Jvm.Cond.lays rc tN "stackTrace" steD).before a1 s = true) :
    ∃ T : ThrowableC, T.Links pl s ∧ s.vm.findClass tN = some T.cT ∧ s.methodNamed? tFill = some T.fill ∧ s.methodNamed? tFill0 = some T.fill0 ∧ (∃ i, s.fieldFound? tN "stackTrace" steD = some (T.cT, T.kT, i, T.fStack)) ∧ (∃ i, s.fieldFound? tN "UNASSIGNED_STACK" steD = some (T.cT, T.kT, i, T.fUnassigned)) ∧ (∃ cell, s.heap[T.aS]? = some cell ∧ cell.vm.isStatics = true) := by
  have hh : ∀ w, w ∈ thrWords → w.holds a1 s none s [] = true := fun w q => h w q
  -- the class
  obtain ⟨⟨ct, j0⟩, mN, nN, vN, natN, cdN, lkN, sgN⟩ := Cond.native_spec (hh (.native tFill0) (by simp [thrWords, throwableAtoms]))
  have fc : s.vm.findClass tN = some ct := findClass_of_methodNamed nN
  obtain ⟨kt, fk, nameT⟩ := Vm.findClass_spec fc
  have ini := Cond.initialized_spec fc fk (hh (.initialized tN) (by simp [thrWords, throwableAtoms]))
  obtain ⟨_, kt', _, _, fk', _, _, ordT, _, niT⟩ := Cond.superclass_spec fc (hh (.superclass tN "java/lang/Object") (by simp [thrWords, throwableAtoms]))
  cases fk.symm.trans fk'
  -- its methods
  obtain ⟨jF, mF, nF, vF, atF, stF, abF, -, -⟩ := Cond.ownMethod (x := tFill) fc fk (hh (.instanceMethod tFill) (by simp [thrWords, throwableAtoms]))
  obtain ⟨mF', cF, vF', cdF, byF, loF, reF, lkF, -, sgF⟩ := Cond.codeSync_spec nF (hh (.codeSync tFill Fill.code 1 (some (.object tN))) (by simp [thrWords, throwableAtoms]))
  cases vF.symm.trans vF'
  obtain ⟨j0', mN', nN', vN', atN, stN, abN, nmN, dsN⟩ := Cond.ownMethod (x := tFill0) fc fk (hh (.instanceMethod tFill0) (by simp [thrWords, throwableAtoms]))
  obtain rfl : j0 = j0' := by have := Option.some.inj (nN.symm.trans nN'); simpa using this
  cases vN.symm.trans vN'
  obtain ⟨jZ, mZ, nZ, vZ, atZ, -, -, -, -⟩ := Cond.ownMethod (x := tInit0) fc fk (hh (.instanceMethod tInit0) (by simp [thrWords, throwableAtoms]))
  obtain ⟨mZ', cZ, vZ', cdZ, -⟩ := Cond.code_spec nZ (hh (.code tInit0 Init0.code 1 none) (by simp [thrWords, throwableAtoms]))
  cases vZ.symm.trans vZ'
  obtain ⟨mi, mO, nO, vO, stO, abO⟩ := Cond.instanceMethod_spec (hh (.instanceMethod oInit) (by simp [thrWords, throwableAtoms]))
  obtain ⟨mO', cO, vO', cdO, byO, loO, -, lkO, -, sgO⟩ := Cond.code_spec nO (hh (.code oInit ⟨#[0xb1]⟩ 1 none) (by simp [thrWords, throwableAtoms]))
  cases vO.symm.trans vO'
  obtain ⟨kO, fkO, nameO⟩ := Vm.findClass_spec (findClass_of_methodNamed nO)
  obtain ⟨nmO, dsO⟩ := name_of_methodNamed nO vO
  -- its links
  obtain ⟨ci1, n1, cf, l1, r1, hcf, p1⟩ := Cond.linkedMethod fc fk nO (hh (.methodLink tN 1 oInit) (by simp [thrWords, throwableAtoms])) pl hpl
  obtain ⟨ci27, n27, cf', l27, r27, hcf', p27⟩ := Cond.linkedMethod fc fk nF (hh (.methodLink tN 27 tFill) (by simp [thrWords, throwableAtoms])) pl hpl
  cases hcf.symm.trans hcf'
  obtain ⟨ci202, n202, cf'', l202, r202, hcf'', p202⟩ := Cond.linkedMethod fc fk nN (hh (.methodLink tN 202 tFill0) (by simp [thrWords, throwableAtoms])) pl hpl
  cases hcf.symm.trans hcf''
  -- its fields; suppressedExceptions by the subclass's word
  obtain ⟨ci7, i7, f7, k7, g7, at7, s7, fi7, -, -, ff7⟩ := Cond.ownField (t := .object tN) fc fk (by decide +kernel) (hh (.fieldLink tN 7 tN "cause" "Ljava/lang/Throwable;") (by simp [thrWords, throwableAtoms])) (hh (.lays tN tN "cause" "Ljava/lang/Throwable;") (by simp [thrWords, throwableAtoms])) pl hpl
  obtain ⟨ci17, i17, f17, k17, g17, at17, s17, fi17, -, -, ff17⟩ := Cond.ownField (t := .array (.object "java/lang/StackTraceElement")) fc fk (by decide +kernel) (hh (.fieldLink tN 17 tN "stackTrace" steD) (by simp [thrWords, throwableAtoms])) (hh (.lays tN tN "stackTrace" steD) (by simp [thrWords, throwableAtoms])) pl hpl
  obtain ⟨ci24, i24, f24, k24, g24, at24, s24, fi24, -, -, ff24⟩ := Cond.ownField (C' := rc) (t := .object "java/util/List") fc fk (by decide +kernel) (hh (.fieldLink tN 24 tN "suppressedExceptions" listD) (by simp [thrWords, throwableAtoms])) hs pl hpl
  obtain ⟨ci13, i13, f13, aS, cS, k13, g13, at13, s13, -, -, hsta, hcS, isS, -, -, ff13⟩ := Cond.ownStatic (t := .array (.object "java/lang/StackTraceElement")) fc fk (by decide +kernel) (hh (.fieldLink tN 13 tN "UNASSIGNED_STACK" steD) (by simp [thrWords, throwableAtoms])) (hh (.laysStatic tN "UNASSIGNED_STACK" steD) (by simp [thrWords, throwableAtoms])) pl hpl
  obtain ⟨ci20, i20, f20, _, _, k20, g20, at20, s20, -⟩ := Cond.ownStatic (t := .object "java/util/List") fc fk (by decide +kernel) (hh (.fieldLink tN 20 tN "SUPPRESSED_SENTINEL" listD) (by simp [thrWords, throwableAtoms])) (hh (.laysStatic tN "SUPPRESSED_SENTINEL" listD) (by simp [thrWords, throwableAtoms])) pl hpl
  obtain ⟨_, _, cM, kM, iM, fM, _, _, ffM, sM, fiM, _⟩ := Cond.lays_spec (hh (.lays tN tN "detailMessage" "Ljava/lang/String;") (by simp [thrWords, throwableAtoms]))
  -- two of them apart: seen in the subclass
  have apart : f17.slot ≠ f24.slot := fun q => by
    have e := slot_ne (Z := s) (a0 := a1) (Or.inl hst) (Or.inl hs) (t := .array (.object "java/lang/StackTraceElement")) (t' := .object "java/util/List") (by decide) (by decide) (by decide)
    apply e
    simp only [RoadKit.slotOf, ff17, ff24]
    first | exact q | (simp [q]; done)
  have pF : mF.sig.parameters = [] := by
    have e : (parseMethodDescriptor tFill.desc).map (·.parameters) = some [] := by decide +kernel
    rw [sgF] at e; simpa using e
  have pN : mN.sig.parameters = [.int] := by
    have e : (parseMethodDescriptor tFill0.desc).map (·.parameters) = some [.int] := by decide +kernel
    rw [sgN] at e; simpa using e
  have pO : mO.sig.parameters.length = 0 := by
    have e : (parseMethodDescriptor oInit.desc).map (·.parameters.length) = some 0 := by decide +kernel
    rw [sgO] at e; simpa using e
  refine ⟨{ cT := ct, kT := kt, cO := ct, aS := aS, fillIdx := jF, fill0Idx := j0, initSIdx := jZ, obj := mi, kObj := kO, methFill := mF, methFill0 := mN, methInitS := mZ, methObj := mO, codeFill := cF, codeInitS := cZ, codeObj := cO, fBack := f7, fDepth := f7, fStack := f17, fCause := f7, fSupp := f24, fMsg := fM, fUnassigned := f13, fSentinel := f20, cfT := cf, ci1 := ci1, n1 := n1, ci27 := ci27, n27 := n27, ci202 := ci202, n202 := n202, ci7 := ci7, i7 := i7, ci13 := ci13, i13 := i13, ci17 := ci17, i17 := i17, ci20 := ci20, i20 := i20, ci24 := ci24, i24 := i24 }, ?_, fc, nF, nN, ⟨i17, ff17⟩, ⟨i13, ff13⟩, cS, hcS, isS⟩
  constructor <;> first | assumption | exact Vm.findClass_boot fc fk | exact apart | (rw [dsO]; exact lookupSpecial_of_named nO vO stO)
end Thr
section Fill
open Bundle Jvm.Free.Exc LibCode.Throwable
variable {p : Program} {l : Launch} {e : Env} {R : Room} {s : State} {m : MethodId} {args : Array Value} {below : List Frame} {meth : Method} {c : Code} {Z : State} {a0 : Array Value} {EL : List (String × Nat)} {kn : Prop} {y : MethodName} {bytes : ByteArray} {maxL : Nat} {ret : Option FieldType}
  {ws : List Addr} {T T' : State} {h h' : Heap} {k n : Nat} {Q : Outcome → State → Prop} {g g' : JFrame} {pc pc' : Nat} {L L' : Array Slot} {S : List Value}
/-- the exception words that the sheets of k581 give: the library's, but for one -/
def excW (rc : String) : List Jvm.Cond := thrWords ++ (excAtoms rc).drop throwableAtoms.length
theorem excW_ok {rc : String} : (excW rc).all xOk = true := rfl
theorem slot_at {s0 : State} (hal : Z.vm.Alike s0.vm) {C nm d : String} {f : Field} (q : ∃ c k i, s0.fieldFound? C nm d = some (c, k, i, f)) : RoadKit.slotOf Z C nm d = f.slot := by
  obtain ⟨c5, k5, i5, g5⟩ := Jvm.Free.BdW.found_ride (U := s0) (U' := Z) hal.symm q
  simp [RoadKit.slotOf, g5]
set_option maxHeartbeats 4000000 in
/-- fillInStackTrace() on an object that the walk has made, in one of Throwable's constructors -/
theorem s_fill (X : Cx p l e R s m args below meth c Z EL kn y bytes maxL ret ws T h k n) (hkk : kn) (hl : l.stackTraces = true) {rc : String} {ni : Nat} {a u : Addr} {k' n' : Nat} (hd : decode bytes pc = .ok (.invokevirtual 27, 3)) (hy : y.cls = tN)
    (wW : ∀ d ∈ excW rc, d.before a0 Z = true) (wi : (Jvm.Cond.instantiable rc ni).before a0 Z = true) (U0 : Sta Z Z.heap tN "UNASSIGNED_STACK" steD (.ref u))
    (E0 : Exa Z h a rc) (N0 : Unt h a) (F1 : Fld Z h a tN "stackTrace" steD (.ref u)) (F2 : Fld Z h a tN "backtrace" obD .null) (ge : Z.heap.size ≤ a) (hm : a ∈ ws)
    (hsz : L.size = maxL) (hf : 3 ≤ R.frames) (hlo : (S.map fun v => v.category).sum + 42 ≤ R.locals) (hk' : k + 1 ≤ k') (hn' : n + 2752 ≤ n') (hkR : k' ≤ R.cells) (hnR : n' ≤ R.slots) (hp : pc + 3 = pc')
    (K : ∀ (T' : State) (h' : Heap), Cx p l e R s m args below meth c Z EL kn y bytes maxL ret ws T' h' k' n' → Kp Z h h' a → Exa Z h' a rc → Unt h' a →
      (∀ {O nm d : String} {v : Value}, Fld Z h a O nm d v → RoadKit.slotOf Z tN "backtrace" obD ≠ RoadKit.slotOf Z O nm d → RoadKit.slotOf Z tN "depth" "I" ≠ RoadKit.slotOf Z O nm d → RoadKit.slotOf Z tN "stackTrace" steD ≠ RoadKit.slotOf Z O nm d → Fld Z h' a O nm d v) →
      Go p e below Q T' (mkF m pc' L (.ref a :: S))) : Go p e below Q T (mkF m pc L (.ref a :: S)) := by
  subst hp
  obtain ⟨c0, vm0, k0, locs, St, eT, hZ, hown, hS, hk, N, H, hsf, E, hkn⟩ := X
  have hZs : Z.Warmed39 (s.setVm vm0).vm := hZ
  have hT0 : ThS Z (s.setVm vm0).heap := ThS.start.ext c0.2.2.2.2.2.2
  have hal : Z.vm.Alike (s.setVm vm0).vm := hZs.alike
  have aw : ∀ x, x ∈ excW rc → x.before args (s.setVm vm0) = true := fun x hx => mvX hT0 hZs (List.all_eq_true.mp excW_ok x hx) (wW x hx)
  have a' : ∀ x, x ∈ excW rc → x.holds args (s.setVm vm0) none (s.setVm vm0) [] = true := fun x hx => aw x hx
  have htr : e.platform.stackTraces = true := by rw [St.admits.platform]; exact hl
  have howns : e.platform.frameOwnsMonitors = true := by rw [St.admits.platform]
  have hfin : e.platform.finalization = false := by rw [St.admits.platform]
  have hpl : e.platform.magicAccessors = ({} : Platform).magicAccessors := by rw [St.admits.platform]
  have inW : ∀ {x : Jvm.Cond}, x ∈ thrWords → x ∈ excW rc := fun hx => List.mem_append_left _ hx
  obtain ⟨Th, Lk, hfc, hnF, hn0, ⟨iS, hffS⟩, ⟨iU, hffU⟩, -⟩ := thrLinks (rc := rc) howns hfin hpl (fun w q => aw w (inW q)) (aw _ (by simp [excW, excAtoms])) (aw _ (by simp [excW, excAtoms]))
  have hown' : (s.setVm vm0).vm.findClass tN = some m.cls := hy ▸ hown
  -- the cell
  have E0' := E0
  have N0' := N0
  obtain ⟨cell, kc, h1, h2, h3, h4, h5⟩ := E0
  obtain ⟨_, u1, u2, u3⟩ := N0
  cases h1.symm.trans u1
  obtain ⟨_, _, i1, i2, i3, -⟩ := Cond.instantiable_spec wi
  cases h2.symm.trans i1
  cases h3.symm.trans i2
  obtain ⟨kX, hkX, ekX⟩ := hal.2.2 _ _ h3
  have hfound : (s.setVm vm0).vm.findClass rc = some cell.cls := by rw [hal.findClass]; exact h2
  have hord : kX.kind = .ordinary := by rw [ekX]; exact i3
  have hszc : cell.slots.size = kX.instanceTypes.size := by rw [ekX]; exact h5 i3
  -- its fields
  obtain ⟨_, _, _, _, fS, f1, f2, -, -, -, -, f7⟩ := F1
  cases h1.symm.trans f1
  obtain ⟨_, q3, -⟩ := State.fieldFound?_setVm (s := Z) hal f2
  cases (show (s.setVm vm0).fieldFound? tN "stackTrace" steD = _ from q3).symm.trans hffS
  obtain ⟨ci198, i198, fB, hk198, hg198, ha198, hsB, -, hnB, htB, hffB⟩ := Cond.ownField (t := .object "java/lang/Object") hfc Lk.cls (by decide +kernel) (a' (.fieldLink tN 198 tN "backtrace" obD) (by simp [excW, excAtoms])) (a' (.lays tN tN "backtrace" obD) (by simp [excW, excAtoms])) e.platform hpl
  obtain ⟨_, _, _, _, fB', b1, b2, -, -, -, -, b7⟩ := F2
  cases h1.symm.trans b1
  obtain ⟨_, q4, -⟩ := State.fieldFound?_setVm (s := Z) hal b2
  cases (show (s.setVm vm0).fieldFound? tN "backtrace" obD = _ from q4).symm.trans hffB
  obtain ⟨cD1, kD1, cD, kD, iD, fD, -, -, hffD, hstD, -, -, -, -⟩ := Cond.lays_spec (a' (.lays rc tN "depth" "I") (by simp [excW, excAtoms]))
  cases Option.some.inj ((Cond.lays_declared (a' (.lays rc tN "depth" "I") (by simp [excW, excAtoms])) hffD).symm.trans hfc)
  obtain ⟨hkD, hatD⟩ := State.fieldFound?_spec hffD
  cases Option.some.inj (hkD.symm.trans Lk.cls)
  obtain ⟨hnD, htD⟩ := State.fieldFound?_type hffD (t := .int) (by decide +kernel)
  obtain ⟨hnS, htS⟩ := State.fieldFound?_type hffS (t := .array (.object "java/lang/StackTraceElement")) (by decide +kernel)
  have hfb := Cond.soleField_find hfc Lk.cls (a' (.soleField tN "backtrace") (by simp [excW, excAtoms])) ha198 hnB hsB
  have hfd := Cond.soleField_find hfc Lk.cls (a' (.soleField tN "depth") (by simp [excW, excAtoms])) hatD hnD hstD
  obtain ⟨comp, cO, kO, -, -, hkO, hkindO, hO⟩ := Cond.arrayOver_spec (aw (.arrayOver (.object "java/lang/Object")) (by simp [excW, excAtoms]))
  obtain ⟨tyS, dS, hdS, hdnS⟩ := Cond.laysAt hfound hkX hffS (a' (.lays rc tN "stackTrace" steD) (by simp [excW, excAtoms]))
  obtain ⟨tyB, dB, hdB, hdnB⟩ := Cond.laysAt hfound hkX hffB (a' (.lays rc tN "backtrace" obD) (by simp [excW, excAtoms]))
  obtain ⟨tyD, dD, hdD, hdnD⟩ := Cond.laysAt hfound hkX hffD (a' (.lays rc tN "depth" "I") (by simp [excW, excAtoms]))
  have tk : ∀ {f : Field} {v : Value}, kX.instanceTypes[f.slot]? = some f.type → fits f.type v = true → Jvm.Takes (s.setVm vm0) cell f v := fun {f v} h1 h2 => by
    obtain ⟨q1, q2⟩ := Takes.of_laid (v := v) hkX hord h1 h2
    exact ⟨by rw [hszc]; simpa using q1, by rw [u2]; exact q2⟩
  -- UNASSIGNED_STACK
  obtain ⟨_, _, kU, fU, stU, cellS, g1, -, -, g4, g5, g6, g7⟩ := U0
  obtain ⟨kU', q5, eU⟩ := State.fieldFound?_setVm (s := Z) hal g1
  have q5' := (show (s.setVm vm0).fieldFound? tN "UNASSIGNED_STACK" steD = _ from q5).symm.trans hffU
  simp only [Option.some.injEq, Prod.mk.injEq] at q5'
  obtain ⟨-, eK, -, eF⟩ := q5'
  have hst : stU = Th.aS := Option.some.inj (g4.symm.trans ((by rw [← eK, eU] : kU.statics = Th.kT.statics).trans Lk.statics))
  subst hst
  subst eF
  have hneS : Th.aS ≠ a := fun z => by
    have := E.2 _ _ g5
    rw [z, h1] at this
    rw [← Option.some.inj this, u2] at g6
    cases g6
  have hknS : cellS.vm ≠ .unknown := fun z => by rw [z] at g6; cases g6
  have hsel0 : selectMethod e.platform (s.setVm vm0).vm cell.cls Th.fill0 = .method Th.fill0 := by
    obtain ⟨c2, r2, m2, q1, q2, q3, q4, -⟩ := Cond.selects_spec (a' (.selects rc tFill0 tFill0) (by simp [excW, excAtoms]))
    cases Option.some.inj (q1.symm.trans hfound)
    cases Option.some.inj (q2.symm.trans (State.methodFound?_of_named hn0 (by decide)))
    cases Option.some.inj (q3.symm.trans hn0)
    rw [Launch.admits_selectMethod St.admits]; exact q4
  have hSE := aw (.selects rc tFill tFill) (by simp [excW, excAtoms])
  obtain ⟨v6, vm6, ⟨T6, L6, c6, n6⟩, hW6, X6, ⟨hv6, vm', lines, hlines, hWv, hU6, hL6, hc6, hn6⟩, st⟩ := St.virtualBack c0.1 (own := tN) (C := rc) (index := 27) (y := tFill) (z := tFill) hown' (aw (.methodLink tN 27 tFill) (inW (by simp [thrWords, throwableAtoms]))) (aw (.declares tFill) (by simp [excW, excAtoms])) (notFace_of_selects hSE) hSE (aw (.instanceMethod tFill) (inW (by simp [thrWords, throwableAtoms]))) (by decide)
    (Jvm.Free.Str.fillPays (l := l) (W := (S.map fun v => v.category).sum) c0.1 htr Th Lk hnF (u0 := ⟨.ref u, rfl⟩) (by simp) (self := a) (cell := cell) (cellS := cellS) (fun _ => by rw [u2]; simp) (by rw [u2]; simp) (by rw [u3]) (by rw [u3]) f7 hsel0 hneS hknS g7 (tk tyS (by rw [htS]; rfl))
      ⟨{ ci198 := ci198, i198 := i198, fBack := fB }, ⟨hk198, hg198, ha198, hsB⟩, b7⟩ (hkn hkk).1 (hkn hkk).2 hfc hO hkO hkindO hfb hfd
      (fun x => tk tyB (by rw [htB]; rfl)) (fun x => tk tyD (by rw [htD]; rfl)) (by omega) (by omega))
    (b := a) (cB := cell.cls) hfound ⟨cell, by rw [eT]; exact h1, rfl, h4⟩ (g := mkF m pc L (.ref a :: S)) rfl (hsz.trans c0.2.2.1.symm) (Steps.refl _) (argsL := []) (rest := S)
    (fun sig h => by rw [show parseMethodDescriptor tFill.desc = some ⟨[], some (.object tN)⟩ from by decide +kernel] at h; rw [← Option.some.inj h]; rfl) rfl (by show 2 * 0 + _ ≤ _; omega) (hb c0.2.1 hd)
    (fun vmx hWx => ⟨rfl, by show k + 1 ≤ R.cells; omega, by show n + 2752 ≤ R.slots; omega, by show T.heap[a]? = _; rw [eT]; exact h1, by show T.heap[_]? = _; rw [eT]; exact E.2 _ _ g5⟩)
  dsimp only [Pt.U, Pt.locs, Pt.cells, Pt.slots] at X6 hU6 hL6 hc6 hn6 st
  subst hv6 hL6 hc6 hn6
  have hsize : (Jvm.traceHolder cO lines).slots.size ≤ 2752 := Jvm.traceHolder_size_le cO hlines
  have hlt : a < h.size := (Array.getElem?_eq_some_iff.mp h1).1
  obtain ⟨C6, eC6⟩ : ∃ z, z = Jvm.Free.Str.filledOn Th.toThrowableT fB fD cell ⟨.ref u, rfl⟩ T.heap.size lines.length.toInt32 := ⟨_, rfl⟩
  have hh6 : T6.heap = (h.push (Jvm.traceHolder cO lines)).setIfInBounds a C6 := by rw [hU6, eC6, ← eT]; rfl
  have at6 : T6.heap[a]? = some C6 := by rw [hh6]; simp [Array.getElem?_setIfInBounds, hlt, Nat.lt_succ_of_lt hlt]
  have oth : ∀ (x : Addr) (cx : Cell), h[x]? = some cx → x ≠ a → T6.heap[x]? = some cx := fun x cx q ne => by
    rw [hh6, Array.getElem?_setIfInBounds_ne ne.symm, Array.getElem?_push_lt (Array.getElem?_eq_some_iff.mp q).1]
    exact congrArg some (Array.getElem?_eq_some_iff.mp q).2
  have c6s : C6 = { cell with slots := C6.slots } := by rw [eC6]; rfl
  have c6z : C6.slots.size = cell.slots.size := by rw [eC6]; simp [Jvm.Free.Str.filledOn, Cell.setSlot]
  have eB := slot_at hal ⟨_, _, _, hffB⟩
  have eD := slot_at hal ⟨_, _, _, hffD⟩
  have eS := slot_at hal ⟨_, _, _, hffS⟩
  have c6i : ∀ i, RoadKit.slotOf Z tN "backtrace" obD ≠ i → RoadKit.slotOf Z tN "depth" "I" ≠ i → RoadKit.slotOf Z tN "stackTrace" steD ≠ i → C6.slots[i]? = cell.slots[i]? := fun i q1 q2 q3 => by
    rw [eB] at q1; rw [eD] at q2; rw [eS] at q3
    rw [eC6]; simp [Jvm.Free.Str.filledOn, Cell.setSlot, Array.getElem?_setIfInBounds, q1, q2, q3]
  have KP : Kp Z h T6.heap a := by
    refine ⟨by rw [hh6]; simp, fun x cx q => ?_⟩
    by_cases z : x = a
    · subst z; cases h1.symm.trans q
      exact ⟨C6, at6, c6s, c6z, fun q => absurd rfl q, fun i hi => c6i i (hi ("backtrace", obD) (by simp [sixNames])) (hi ("depth", "I") (by simp [sixNames])) (hi ("stackTrace", steD) (by simp [sixNames]))⟩
    · exact ⟨cx, oth x cx q z, rfl, rfl, fun _ => rfl, fun _ _ => rfl⟩
  have Kk := keep_of_kp KP
  have Sa : ∀ x ∈ [a], Safe Z EL vm0 h x := fun x hx => by rw [List.mem_singleton.mp hx]; exact (hsf a hm).1
  refine Go.of (fun t q => st.trans q) (K T6 T6.heap ⟨c0, vm0, k0, _, X6.mono (by omega) (by omega), rfl, hZ, hown, hS, Nat.le_trans hk Kk.1, N.app fun z hz => ?_, H.trans (CHr.keep Kk Sa H.1), fun x q => ⟨Safe.keep Kk Sa H.1 (hsf x q).1, Nat.lt_of_lt_of_le (hsf x q).2 Kk.1⟩, ext_keep E Kk (allS ge all0), hkn⟩ KP (E0'.kp KP) (N0'.kp KP) ?_)
  · simp only [List.mem_cons, List.not_mem_nil, or_false] at hz
    rcases hz with rfl | rfl | rfl <;> exact ge
  · intro O nm d v F q1 q2 q3
    obtain ⟨cl, cf, kf, i, f, e1, e2, e3, e4, e5, e6, e7⟩ := F
    cases h1.symm.trans e1
    have es : RoadKit.slotOf Z O nm d = f.slot := by simp [RoadKit.slotOf, e2]
    rw [es] at q1 q2 q3
    exact ⟨C6, cf, kf, i, f, at6, e2, e3, by rw [c6s]; exact e4, by rw [c6s]; exact e5, by rw [c6s]; exact e6, by rw [c6i _ q1 q2 q3]; exact e7⟩
theorem kp_refl (a : Addr) : Kp Z h h a := ⟨Nat.le_refl _, fun y cy q => ⟨cy, q, rfl, rfl, fun _ => rfl, fun _ _ => rfl⟩⟩
theorem kp_trans {h1 h2 h3 : Heap} {a : Addr} (K : Kp Z h1 h2 a) (K' : Kp Z h2 h3 a) : Kp Z h1 h3 a := by
  refine ⟨Nat.le_trans K.1 K'.1, fun y cy q => ?_⟩
  obtain ⟨c1, q1, q2, q3, q4, q5⟩ := K.2 y cy q
  obtain ⟨c2, r1, r2, r3, r4, r5⟩ := K'.2 y c1 q1
  refine ⟨c2, r1, ?_, r3.trans q3, fun ne => (r4 ne).trans (q4 ne), fun i hi => (r5 i hi).trans (q5 i hi)⟩
  rw [r2, q2]
theorem kp_wr {h1 h2 h3 : Heap} {a : Addr} {nm d : String} {v : Value} (K : Kp Z h1 h2 a) (W : Wr h2 h3 a (RoadKit.slotOf Z tN nm d) v) (hin : (nm, d) ∈ sixNames) : Kp Z h1 h3 a := by
  refine kp_trans K ?_
  obtain ⟨cell, w1, w2, w3, rfl⟩ := W
  refine ⟨by simp, fun y cy q => ?_⟩
  by_cases z : y = a
  · subst z; cases w1.symm.trans q
    have hlt := (Array.getElem?_eq_some_iff.mp w1).1
    refine ⟨cell.setSlot (RoadKit.slotOf Z tN nm d) v, by simp [Array.getElem?_setIfInBounds, hlt], rfl, by simp [Cell.setSlot], fun ne => absurd rfl ne, fun i hi => ?_⟩
    have := hi _ hin
    simp [Cell.setSlot, Array.getElem?_setIfInBounds, this]
  · exact ⟨cy, by rw [Array.getElem?_setIfInBounds_ne (Ne.symm z)]; exact q, rfl, rfl, fun _ => rfl, fun _ _ => rfl⟩
end Fill
section Up
open Bundle Jvm.Free.Exc
variable {p : Program} {l : Launch} {e : Env} {R : Room} {s : State} {m : MethodId} {args : Array Value} {below : List Frame} {meth : Method} {c : Code} {Z : State} {a0 : Array Value} {EL : List (String × Nat)} {kn : Prop} {y : MethodName} {bytes : ByteArray} {maxL : Nat} {ret : Option FieldType}
  {ws : List Addr} {T T' : State} {h h' : Heap} {k n : Nat} {Q : Outcome → State → Prop} {g g' : JFrame} {pc pc' : Nat} {L L' : Array Slot} {S : List Value}
/-- 'invokevirtual' of a method that the named class inherits -/
theorem upBackS {locs : List Loc} {cells slots : Nat} (X : Stand p l e R s m args below meth c T locs cells slots) (hexec : p.tables.exec = Jvm.exec) {own C owner : String} {index : Nat} {xx z : MethodName}
    (hown : s.vm.findClass own = some m.cls) (hlink : (Jvm.Cond.methodLink own index xx).before args s = true) (hsame : (Jvm.Cond.sameMethod xx.cls owner xx.name xx.desc).before args s = true)
    (hdecl : (Jvm.Cond.declares ⟨owner, xx.name, xx.desc⟩).before args s = true) (howner : owner ≠ "java/lang/invoke/MethodHandle" ∧ owner ≠ "java/lang/invoke/VarHandle")
    (hsel : (Jvm.Cond.selects C xx z).before args s = true) (hinst : (Jvm.Cond.instanceMethod z).before args s = true)
    {W : Nat} {Pre : Free.Pt → Array Value → Prop} {Post : Free.Pt → Array Value → Option Value → Free.Pt → Prop} (hK : Free.BackS l R p e below s args z 3 W Pre Post)
    {b : Addr} {cell : Cell} {cB : ClassId} (hcB : s.vm.findClass C = some cB) (hcell : T.heap[b]? = some cell) (hcls : cell.cls = cB) (hobj : ∀ q, cell.vm ≠ .statics q)
    {g : JFrame} (hg : g.method = m) (hsize : g.locals.size = c.maxLocals)
    {argsL rest : List Value} (hlen : ∀ sig, parseMethodDescriptor xx.desc = some sig → argsL.length = sig.parameters.length)
    (hstack : g.stack = argsL.reverse ++ .ref b :: rest) (hW : 2 * g.monitorRoom + (rest.map fun v => v.category).sum ≤ W) (hdg : decode c.code g.pc = .ok (.invokevirtual index, 3))
    (hpre : ∀ vm₁, s.WarmedH vm₁ → Pre ⟨T.setVm vm₁, locs, cells, slots⟩ (.ref b :: argsL).toArray) :
    ∃ (v : Option Value) (vm₁ : Vm) (B : Free.Pt), s.WarmedH vm₁ ∧ Stand p l e R (s.setVm B.U.vm) m args below meth c B.U B.locs B.cells B.slots ∧ s.Since B.U.vm B.U.heap.size ∧ T.heap.size ≤ B.U.heap.size ∧ Post ⟨T.setVm vm₁, locs, cells, slots⟩ (.ref b :: argsL).toArray v B ∧
      Steps p.tables e below (T.setTop g) (B.U.setTop { g with pc := g.pc + 3, stack := v.toList ++ rest }) := by
  obtain ⟨r0, r, hn, hrm, hstR, hsigR⟩ := Cond.declares_spec hdecl
  obtain ⟨cn, ck, r1, hcn, hck, hni, hf, hn1⟩ := Cond.sameMethod_found hsame
  cases hn.symm.trans hn1
  obtain ⟨mk, methM, hnamed, hmethM, -, habM⟩ := Cond.instanceMethod_spec hinst
  obtain ⟨c2, r2, m2, q1, q2, q3, q4, kP, hkP, hkPi⟩ := Cond.selects_spec hsel
  cases hcB.symm.trans q1
  cases hf.symm.trans q2
  cases hnamed.symm.trans q3
  have hselP : selectMethod e.platform s.vm cell.cls r0 = .method mk := by rw [Launch.admits_selectMethod X.admits, hcls]; exact q4
  obtain ⟨vm₁, X₁, hstep₁⟩ := X.invokevirtualUp hexec hown hlink hsame howner hn hrm hstR (a := b) (cell := cell) hcell hobj hselP hmethM habM hkP hkPi (g := g) hg (argsL := argsL) (rest := rest) (hlen _ hsigR) hstack hdg
  obtain ⟨v, B, X', hS, hgr, hpost, hsteps⟩ := hK m meth c ⟨T.setVm vm₁, locs, cells, slots⟩ { g with stack := rest } (.invokevirtual index) mk (.ref b :: argsL).toArray X₁ hg hsize hdg hW (X₁.named hnamed) (hpre vm₁ X₁.warmed)
  exact ⟨v, vm₁, B, X₁.warmed, X', hS, hgr, hpost, (hstep₁ _ fun acts => by rw [doInvoke_state]; exact Steps.refl _).trans hsteps⟩
theorem s_up (X : Cx p l e R s m args below meth c Z EL kn y bytes maxL ret ws T h k n) {index : Nat} {C owner : String} {xx z : MethodName} {W ck sk : Nat} {a : Addr} {as' : List Value} {Qc : Option Value → Heap → List Addr → Prop} {ps : List FieldType} {rr : Option FieldType} {stk : List Value} {k' n' : Nat} (hd : decode bytes pc = .ok (.invokevirtual index, 3))
    (w1 : (Jvm.Cond.methodLink y.cls index xx).before a0 Z = true) (w2 : (Jvm.Cond.sameMethod xx.cls owner xx.name xx.desc).before a0 Z = true) (w3 : (Jvm.Cond.declares ⟨owner, xx.name, xx.desc⟩).before a0 Z = true) (w4 : (Jvm.Cond.selects C xx z).before a0 Z = true) (w5 : (Jvm.Cond.instanceMethod z).before a0 Z = true) (ho : owner ≠ "java/lang/invoke/MethodHandle" ∧ owner ≠ "java/lang/invoke/VarHandle") (hpd : parseMethodDescriptor xx.desc = some ⟨ps, rr⟩) (hlen : as'.length = ps.length) (E0 : Exa Z h a C)
    (P : Pay l R p e below s args Z EL kn ws z 3 W ck sk (.ref a :: as').toArray h Qc) (hW : (S.map fun v => v.category).sum ≤ W) (hsz : L.size = maxL) (hst : stk = as'.reverse ++ .ref a :: S) (hk' : k + ck ≤ k') (hn' : n + sk ≤ n') (hkR : k' ≤ R.cells) (hnR : n' ≤ R.slots) (hp : pc + 3 = pc')
    (K : ∀ T' h' v ws', Cx p l e R s m args below meth c Z EL kn y bytes maxL ret (ws' ++ ws) T' h' k' n' → h.size ≤ h'.size → Qc v h' ws' → Go p e below Q T' (mkF m pc' L (v.toList ++ S))) : Go p e below Q T (mkF m pc L stk) := by
  subst hp; subst hst
  obtain ⟨c0, vm0, k0, locs, St, eT, hZ, hown, hS, hk, N, H, hsf, E, hkn⟩ := X
  have hP := P vm0 hZ H.1 hsf E hkn
  have hZ' : Z.Warmed39 (s.setVm vm0).vm := hZ
  obtain ⟨cell, kc, h1, h2, h3, h4, -⟩ := E0
  obtain ⟨v, vm₁, B, hw, X', h2, hgr, ⟨L', ws', q1, q2, q3, q4, q5, q6, q7, q8⟩, st⟩ := upBackS St c0.1 hown (mvT hZ w1) (mvT hZ w2) (mvT hZ w3) ho (mvT hZ w4) (mvT hZ w5) hP (b := a) (cell := cell) (by rw [hZ'.alike.findClass]; exact h2) (by rw [eT]; exact h1) rfl (fun z h => by rw [h] at h4; cases h4) (g := mkF m pc L (as'.reverse ++ .ref a :: S)) rfl (hsz.trans c0.2.2.1.symm) (lenOf hpd hlen) rfl (by show 2 * 0 + _ ≤ _; omega) (hb c0.2.1 hd) (fun _ _ => ⟨rfl, eT, Nat.le_trans hk' hkR, Nat.le_trans hn' hnR⟩)
  obtain ⟨U, Lb, kb, nb⟩ := B
  dsimp only [Pt.U, Pt.locs, Pt.cells, Pt.slots] at X' h2 hgr q1 q2 q3 q4 q5 q6 q7 q8 st
  subst q4 q5 q6
  rw [eT] at hgr
  exact Go.of (fun t q => st.trans q) (K U U.heap v ws' ((after c0 X' hZ hown hS hk N H hsf hkn h2 hgr q2 q3 q7 q8).more hk' hn') hgr q1)
/-- Throwable.getCause() on an object that the walk has made -/
theorem gcPay {W : Nat} {a : Addr} {v0 : Value} (hEL : EW Z a0 EL) (wc : (Jvm.Cond.codeSync RoadKit.gcN RoadKit.gcB 1 (some (.object tN))).before a0 Z = true) (wi : (Jvm.Cond.instanceMethod RoadKit.gcN).before a0 Z = true) (wz : (Jvm.Cond.initialized tN).before a0 Z = true) (wf : (Jvm.Cond.fieldLink tN 7 tN "cause" thD).before a0 Z = true)
    (N : Unt h a) (F : Fld Z h a tN "cause" thD v0) (hv0 : v0.isRef = true) (hne : v0 ≠ .ref a) (hf : 1 ≤ R.frames) (hl : W + 12 ≤ R.locals) :
    Pay l R p e below s args Z EL kn ws RoadKit.gcN 3 W 0 0 #[.ref a] h (fun v h' ws' => v = some v0 ∧ h' = h ∧ ws' = []) := by
  have e0 : RoadKit.gcV a v0 = v0 := by rw [RoadKit.gcV, if_neg hne]
  refine Pay.of_back hEL (Q0 := fun v h' L => v = some v0 ∧ h' = h ∧ L = []) (fun vm0 hZ => ?_) (fun v h' L q => ?_)
  · refine Back.mono (RoadKit.gcBackPure (rm := { frames := 0, cells := 0, slots := 0, locals := 0 }) (s := s.setVm vm0) hZ wc wi wz wf N F hv0 (by show 0 + 1 ≤ _; omega) (by show W + (1 + 11) + 0 ≤ _; omega)) (fun A q r => r) ?_
    rintro A q v B - ⟨h1, h2, h3, h4, h5⟩
    rw [e0] at h1
    exact ⟨[], ⟨h1, h2, rfl⟩, by rw [h3, List.append_nil], h4, h5⟩
  · obtain ⟨rfl, rfl, rfl⟩ := q
    exact ⟨[], [], Keep.refl _ _, (fun x q => nomatch q), Fr.nil _, ⟨rfl, rfl, rfl⟩, fun x q => nomatch q⟩
end Up
end Own
end Jvm.Own
/- laws to paste: Road.backV, Road.lenW, Road.codOf (cut by pick.py; bodies as the Statement names them) -/
namespace Jvm.Pilot.@@N@@
namespace StrChars
open Jvm Sem ClassFile Op Lib Jvm.Stand Jvm.Free.XT Jvm.Free.ALB Jvm.Free.JM Jvm.Free
open Jvm.Lib.Cold (StaticIs)
/-- a char array whose places are chars -/
def Ch (a : Addr) (A : Cell) (U : State) : Prop := Arr .char a A U ∧ Typed .char A
theorem Ch.mv {a : Addr} {A : Cell} {U U' : State} (h : Ch a A U) (hal : U.vm.Alike U'.vm) (hh : U'.heap = U.heap) : Ch a A U' := ⟨h.1.mv hal hh, h.2⟩
theorem Ch.keep {a : Addr} {A : Cell} {U U' : State} (h : Ch a A U) (hal : U.vm.Alike U'.vm) (hk : U'.heap[a]? = some A) : Ch a A U' := ⟨h.1.keep hal hk, h.2⟩
/-- what place i of a char[]'s cell holds -/
def cv (A : Cell) (i : Nat) : Int32 := match A.slots[i]? with | some (.int x) => x | _ => 0
theorem Ch.get {a : Addr} {A : Cell} {U : State} (h : Ch a A U) {i : Nat} (hi : i < A.slots.size) : A.slots[i]? = some (.int (cv A i)) := by
  have e := Array.getElem?_eq_getElem hi
  have f := h.2 i _ e
  unfold cv; rw [e]
  generalize A.slots[i] = v at f
  cases v <;> simp [fits] at f ⊢
/-- the byte that i2b leaves of a char -/
def lo8 (x : Int32) : Int32 := x.toInt8.toInt32
theorem fits_lo8 (y : Int32) : fits .byte (.int (lo8 y)) = true := by
  have h1 := y.toInt8.le_toInt
  have h2 := y.toInt8.toInt_lt
  simp only [lo8, fits, Bool.and_eq_true, decide_eq_true_eq, Int32.le_iff_toInt_le, Int8.toInt_toInt32, show (-128 : Int32).toInt = -128 from by decide, show (127 : Int32).toInt = 127 from by decide]
  omega
/-- A' is A but that each place j of lo .. hi - 1 holds f j -/
def Laid (A A' : Cell) (lo hi : Nat) (f : Nat → Value) : Prop := A'.cls = A.cls ∧ A'.vm = A.vm ∧ A'.slots.size = A.slots.size ∧ ∀ i, A'.slots[i]? = if lo ≤ i ∧ i < hi then some (f i) else A.slots[i]?
theorem Laid.zero (A : Cell) (lo : Nat) (f : Nat → Value) : Laid A A lo (lo + 0) f := ⟨rfl, rfl, rfl, fun i => by rw [if_neg (by omega)]⟩
theorem Laid.step {A Ak : Cell} {lo k : Nat} {f : Nat → Value} {v : Value} (h : Laid A Ak lo k f) (hlo : lo ≤ k) (hk : k < Ak.slots.size) (hv : v = f k) : Laid A (Ak.setSlot k v) lo (k + 1) f := by
  refine ⟨h.1, h.2.1, by simpa [Cell.setSlot] using h.2.2.1, fun i => ?_⟩
  by_cases e : k = i
  · subst e; rw [Cell.slots_setSlot_self v hk, if_pos (by omega), hv]
  · rw [Cell.slots_setSlot_ne v e, h.2.2.2 i]
    by_cases q : lo ≤ i ∧ i < k
    · rw [if_pos q, if_pos (by omega)]
    · rw [if_neg q, if_neg (by omega)]
def U16 : String := "java/lang/StringUTF16"
namespace Cmp5
def yN : MethodName := ⟨"java/lang/StringUTF16", "compress", "([CI[BII)I"⟩
abbrev yB : ByteArray := jdk_52_method_21_code
theorem d0 : decode yB 0 = .ok (.iconst 0, 1) := by decide +kernel
theorem d1 : decode yB 1 = .ok (.istore 5, 2) := by decide +kernel
theorem d3 : decode yB 3 = .ok (.iload 5, 2) := by decide +kernel
theorem d5 : decode yB 5 = .ok (.iload 4, 2) := by decide +kernel
theorem d7 : decode yB 7 = .ok (.if_icmp (.ge) 37, 3) := by decide +kernel
theorem d10 : decode yB 10 = .ok (.aload_n 0, 1) := by decide +kernel
theorem d11 : decode yB 11 = .ok (.iload_n 1, 1) := by decide +kernel
theorem d12 : decode yB 12 = .ok (.caload, 1) := by decide +kernel
theorem d13 : decode yB 13 = .ok (.istore 6, 2) := by decide +kernel
theorem d15 : decode yB 15 = .ok (.iload 6, 2) := by decide +kernel
theorem d17 : decode yB 17 = .ok (.sipush 255, 3) := by decide +kernel
theorem d20 : decode yB 20 = .ok (.if_icmp (.le) 6, 3) := by decide +kernel
theorem d26 : decode yB 26 = .ok (.aload_n 2, 1) := by decide +kernel
theorem d27 : decode yB 27 = .ok (.iload_n 3, 1) := by decide +kernel
theorem d28 : decode yB 28 = .ok (.iload 6, 2) := by decide +kernel
theorem d30 : decode yB 30 = .ok (.i2b, 1) := by decide +kernel
theorem d31 : decode yB 31 = .ok (.bastore, 1) := by decide +kernel
theorem d32 : decode yB 32 = .ok (.iinc 1 1, 3) := by decide +kernel
theorem d35 : decode yB 35 = .ok (.iinc 3 1, 3) := by decide +kernel
theorem d38 : decode yB 38 = .ok (.iinc 5 1, 3) := by decide +kernel
theorem d41 : decode yB 41 = .ok (.goto (-38), 3) := by decide +kernel
theorem d44 : decode yB 44 = .ok (.iload 4, 2) := by decide +kernel
theorem d46 : decode yB 46 = .ok (.ireturn, 1) := by decide +kernel
def site : List Cond := []
def tab : Cond := tabOf yN yB 7 (some .int) site
def P (b : Addr) (A : Cell) (d : Addr) (B : Cell) (o q len : Nat) (args : Array Value) (s : State) : Prop := args = #[.ref b, .int (Int32.ofNat o), .ref d, .int (Int32.ofNat q), .int (Int32.ofNat len)] ∧ Ch b A s ∧ Arr .byte d B s ∧ b ≠ d ∧ o + len ≤ A.slots.size ∧ q + len ≤ B.slots.size ∧ ∀ i, i < len → ¬ 255 < cv A (o + i)
def E (b : Addr) (A : Cell) (d : Addr) (B : Cell) (o q len : Nat) (r : Option Value) (s u : State) : Prop := r = some (.int (Int32.ofNat len)) ∧ ∃ B', Put d B' s u ∧ Laid B B' q (q + len) (fun j => Value.int (lo8 (cv A (o + (j - q)))))
/-- no char of the range above 255: len; the places written hold each char's low byte -/
theorem law (l : Launch) (b : Addr) (A : Cell) (d : Addr) (B : Cell) (o q len : Nat) : Law l yN 5 5 0 0 yB 7 (some .int) site (P b A d B o q len) (E b A d B o q len) (copyLocs d q len) 0 0 := by
  refine Law.of_walk (plainFor_of_name (by decide +kernel)) (by decide +kernel) (by decide +kernel) (by decide) (fun _ _ h => by rw [h.1]; rfl) (fun _ U U' hal hh h => ⟨h.1, h.2.1.mv hal hh, h.2.2.1.mv hal hh, h.2.2.2⟩) (fun r U U' V V' h1 hal h2 h => ⟨h.1, h.2.elim fun B' q => ⟨B', q.1.mv h1 h2, q.2⟩⟩) ?_
  intro p e s m args below meth c s₁ X0 hexec hbytes hml hret hlk hnm hown hh0 W hP
  obtain ⟨rfl, hA, hB, hne, l1, l2, hp⟩ := hP
  have c1 : Steps p.tables e below (s₁.setTop (entryFrame m #[.ref b, .int (Int32.ofNat o), .ref d, .int (Int32.ofNat q), .int (Int32.ofNat len)] 7)) (s₁.setTop (mkF m 0 #[.val (.ref b), .val (.int (Int32.ofNat o)), .val (.ref d), .val (.int (Int32.ofNat q)), .val (.int (Int32.ofNat len)), .unset, .unset] [])) := entry rfl
  have hA0 := hA.1.mv X0.warmed.alike hh0
  have hB0 := hB.mv X0.warmed.alike hh0
  have a31 := hA.1.2.2.2
  have c2 : Steps p.tables e below (s₁.setTop (entryFrame m #[.ref b, .int (Int32.ofNat o), .ref d, .int (Int32.ofNat q), .int (Int32.ofNat len)] 7)) (s₁.setTop (mkF m 3 #[.val (.ref b), .val (.int (Int32.ofNat o)), .val (.ref d), .val (.int (Int32.ofNat q)), .val (.int (Int32.ofNat len)), .val (.int 0), .unset] [])) := c1.trans (by
    refine iconstV X0.here hexec rfl 0 (hb hbytes d0) (by decide) ?_
    refine XS.istore X0.here hexec rfl (hb hbytes d1) rfl rfl ?_
    exact Steps.refl _)
  have loop : ∀ (r i : Nat), i + r = len → ∀ (z : Slot), (z = .unset ∨ ∃ w, z = .val w ∧ w.category = 1) → ∀ (Tl : State) (Bk : Cell), Stand p l e { frames := 0, locals := 0, cells := 0, slots := 0 } s m #[.ref b, .int (Int32.ofNat o), .ref d, .int (Int32.ofNat q), .int (Int32.ofNat len)] below meth c Tl ([] ++ copyLocs d q i) 0 0 → Put d Bk s₁ Tl → Laid B Bk q (q + i) (fun j => Value.int (lo8 (cv A (o + (j - q))))) →
      Steps p.tables e below (s₁.setTop (entryFrame m #[.ref b, .int (Int32.ofNat o), .ref d, .int (Int32.ofNat q), .int (Int32.ofNat len)] 7)) (Tl.setTop (mkF m 3 #[.val (.ref b), .val (.int (Int32.ofNat (o + i))), .val (.ref d), .val (.int (Int32.ofNat (q + i))), .val (.int (Int32.ofNat len)), .val (.int (Int32.ofNat i)), z] [])) → ∃ (T' : State) (B' : Cell) (z' : Slot), Stand p l e { frames := 0, locals := 0, cells := 0, slots := 0 } s m #[.ref b, .int (Int32.ofNat o), .ref d, .int (Int32.ofNat q), .int (Int32.ofNat len)] below meth c T' ([] ++ copyLocs d q len) 0 0 ∧ Put d B' s₁ T' ∧ Laid B B' q (q + len) (fun j => Value.int (lo8 (cv A (o + (j - q))))) ∧
      Steps p.tables e below (s₁.setTop (entryFrame m #[.ref b, .int (Int32.ofNat o), .ref d, .int (Int32.ofNat q), .int (Int32.ofNat len)] 7)) (T'.setTop (mkF m 3 #[.val (.ref b), .val (.int (Int32.ofNat (o + len))), .val (.ref d), .val (.int (Int32.ofNat (q + len))), .val (.int (Int32.ofNat len)), .val (.int (Int32.ofNat len)), z'] [])) := by
    intro r
    induction r with
    | zero =>
      intro i hi z hz Tl Bk Xl pl fl cl
      have hil : i = len := by omega
      rw [hil] at Xl fl cl
      exact ⟨Tl, Bk, z, Xl, pl, fl, cl⟩
    | succ r ih =>
      intro i hi z hz Tl Bk Xl pl fl cl
      have all := X0.warmed.alike.symm.trans Xl.warmed.alike
      have hAl := hA0.keep all (pl.other hne hA0.1)
      have hBk := hB0.like all pl.1 fl.1 fl.2.1 fl.2.2.1
      have hlt : q + i < Bk.slots.size := by rw [fl.2.2.1]; omega
      have c3 : Steps p.tables e below (s₁.setTop (entryFrame m #[.ref b, .int (Int32.ofNat o), .ref d, .int (Int32.ofNat q), .int (Int32.ofNat len)] 7)) (Tl.setTop (mkF m 12 #[.val (.ref b), .val (.int (Int32.ofNat (o + i))), .val (.ref d), .val (.int (Int32.ofNat (q + i))), .val (.int (Int32.ofNat len)), .val (.int (Int32.ofNat i)), z] [.int (Int32.ofNat (o + i)), .ref b])) := cl.trans (by
        refine XS.iload Xl.here hexec rfl (hb hbytes d3) rfl ?_
        refine XS.iload Xl.here hexec rfl (hb hbytes d5) rfl ?_
        refine XS.icmpNo Xl.here hexec rfl (hb hbytes d7) rfl (ii_ge_f (lt32 (by omega) (by omega))) ?_
        refine XS.aloadN Xl.here hexec rfl (hb hbytes d10) rfl rfl ?_
        refine XS.iloadN Xl.here hexec rfl (hb hbytes d11) rfl ?_
        exact Steps.refl _)
      have c4 : Steps p.tables e below (s₁.setTop (entryFrame m #[.ref b, .int (Int32.ofNat o), .ref d, .int (Int32.ofNat q), .int (Int32.ofNat len)] 7)) (Tl.setTop (mkF m 13 #[.val (.ref b), .val (.int (Int32.ofNat (o + i))), .val (.ref d), .val (.int (Int32.ofNat (q + i))), .val (.int (Int32.ofNat len)), .val (.int (Int32.ofNat i)), z] [.int (cv A (o + i))])) := c3.trans (by
        refine Xl.aget hexec hAl rfl (hA.get (i := o + i) (by omega)) rfl rfl (hb hbytes d12) ?_
        exact Steps.refl _)
      have c5 : Steps p.tables e below (s₁.setTop (entryFrame m #[.ref b, .int (Int32.ofNat o), .ref d, .int (Int32.ofNat q), .int (Int32.ofNat len)] 7)) (Tl.setTop (mkF m 15 #[.val (.ref b), .val (.int (Int32.ofNat (o + i))), .val (.ref d), .val (.int (Int32.ofNat (q + i))), .val (.int (Int32.ofNat len)), .val (.int (Int32.ofNat i)), .val (.int (cv A (o + i)))] [])) := c4.trans (by
        refine XS.istoreS Xl.here hexec rfl (hb hbytes d13) rfl rfl hz ?_
        exact Steps.refl _)
      have c6 : Steps p.tables e below (s₁.setTop (entryFrame m #[.ref b, .int (Int32.ofNat o), .ref d, .int (Int32.ofNat q), .int (Int32.ofNat len)] 7)) (Tl.setTop (mkF m 31 #[.val (.ref b), .val (.int (Int32.ofNat (o + i))), .val (.ref d), .val (.int (Int32.ofNat (q + i))), .val (.int (Int32.ofNat len)), .val (.int (Int32.ofNat i)), .val (.int (cv A (o + i)))] [.int (lo8 (cv A (o + i))), .int (Int32.ofNat (q + i)), .ref d])) := c5.trans (by
        refine XS.iload Xl.here hexec rfl (hb hbytes d15) rfl ?_
        refine sipushV Xl.here hexec rfl 255 (hb hbytes d17) (by decide) ?_
        refine XS.icmpYes Xl.here hexec rfl (pc0 := 20) rfl (hb hbytes d20) rfl (ii_le_t (hp i (by omega))) (by decide) rfl ?_
        refine XS.aloadN Xl.here hexec rfl (hb hbytes d26) rfl rfl ?_
        refine XS.iloadN Xl.here hexec rfl (hb hbytes d27) rfl ?_
        refine XS.iload Xl.here hexec rfl (hb hbytes d28) rfl ?_
        refine i2b Xl.here hexec rfl (hb hbytes d30) rfl ?_
        exact Steps.refl _)
      obtain ⟨T7, X7, p7, st7⟩ := Xl.aput hexec hBk rfl hlt rfl (fits_lo8 (cv A (o + i))) (g := (mkF m 31 #[.val (.ref b), .val (.int (Int32.ofNat (o + i))), .val (.ref d), .val (.int (Int32.ofNat (q + i))), .val (.int (Int32.ofNat len)), .val (.int (Int32.ofNat i)), .val (.int (cv A (o + i)))] [.int (lo8 (cv A (o + i))), .int (Int32.ofNat (q + i)), .ref d])) rfl (rest := []) rfl (hb hbytes d31)
      have c8 : Steps p.tables e below (s₁.setTop (entryFrame m #[.ref b, .int (Int32.ofNat o), .ref d, .int (Int32.ofNat q), .int (Int32.ofNat len)] 7)) (T7.setTop (mkF m 32 #[.val (.ref b), .val (.int (Int32.ofNat (o + i))), .val (.ref d), .val (.int (Int32.ofNat (q + i))), .val (.int (Int32.ofNat len)), .val (.int (Int32.ofNat i)), .val (.int (cv A (o + i)))] [])) := c6.trans (st7 _ (Steps.refl _))
      have c9 : Steps p.tables e below (s₁.setTop (entryFrame m #[.ref b, .int (Int32.ofNat o), .ref d, .int (Int32.ofNat q), .int (Int32.ofNat len)] 7)) (T7.setTop (mkF m 3 #[.val (.ref b), .val (.int (Int32.ofNat (o + i) + 1)), .val (.ref d), .val (.int (Int32.ofNat (q + i) + 1)), .val (.int (Int32.ofNat len)), .val (.int (Int32.ofNat i + 1)), .val (.int (cv A (o + i)))] [])) := c8.trans (by
        refine iincV X7.here hexec rfl 1 (hb hbytes d32) (by decide) rfl rfl ?_
        refine iincV X7.here hexec rfl 1 (hb hbytes d35) (by decide) rfl rfl ?_
        refine iincV X7.here hexec rfl 1 (hb hbytes d38) (by decide) rfl rfl ?_
        refine XS.goto X7.here hexec rfl (pc0 := 41) rfl (hb hbytes d41) (by decide) rfl ?_
        exact Steps.refl _)
      have c10 : Steps p.tables e below (s₁.setTop (entryFrame m #[.ref b, .int (Int32.ofNat o), .ref d, .int (Int32.ofNat q), .int (Int32.ofNat len)] 7)) (T7.setTop (mkF m 3 #[.val (.ref b), .val (.int (Int32.ofNat (o + (i + 1)))), .val (.ref d), .val (.int (Int32.ofNat (q + (i + 1)))), .val (.int (Int32.ofNat len)), .val (.int (Int32.ofNat (i + 1))), .val (.int (cv A (o + i)))] [])) := by
        have := c9
        rw [succ32, succ32, succ32] at this
        exact this
      exact ih (i + 1) (by omega) _ (Or.inr ⟨_, rfl, rfl⟩) T7 _ (by rw [copyLocs_step, ← List.append_assoc]; exact X7) (pl.trans p7) (fl.step (by omega) hlt (by simp)) c10
  obtain ⟨T9, B9, z9, X9, p9, f9, g9⟩ := loop len 0 (by omega) .unset (Or.inl rfl) s₁ B (by simpa [copyLocs] using X0) ⟨hB0.1, fun _ _ => rfl, rfl⟩ (Laid.zero _ _ _) c2
  have c11 : Steps p.tables e below (s₁.setTop (entryFrame m #[.ref b, .int (Int32.ofNat o), .ref d, .int (Int32.ofNat q), .int (Int32.ofNat len)] 7)) (T9.setTop (mkF m 46 #[.val (.ref b), .val (.int (Int32.ofNat (o + len))), .val (.ref d), .val (.int (Int32.ofNat (q + len))), .val (.int (Int32.ofNat len)), .val (.int (Int32.ofNat len)), z9] [.int (Int32.ofNat len)])) := g9.trans (by
    refine XS.iload X9.here hexec rfl (hb hbytes d3) rfl ?_
    refine XS.iload X9.here hexec rfl (hb hbytes d5) rfl ?_
    refine XS.icmpYes X9.here hexec rfl (pc0 := 7) rfl (hb hbytes d7) rfl (ii_ge_t (nlt32 (by omega) (Nat.le_refl _))) (by decide) rfl ?_
    refine XS.iload X9.here hexec rfl (hb hbytes d44) rfl ?_
    exact Steps.refl _)
  exact ⟨T9, some (.int (Int32.ofNat len)), _, _, _, X9, by simp, rfl, rfl, (fun h => by cases h), ⟨rfl, B9, p9.from hh0, f9⟩, fun fs hl => c11.trans (X9.ireturnOut hexec hret rfl (Or.inl rfl) (hb hbytes d46) hl)⟩
end Cmp5
namespace Cmp3
def yN : MethodName := ⟨"java/lang/StringUTF16", "compress", "([CII)[B"⟩
abbrev yB : ByteArray := jdk_52_method_16_code
theorem d0 : decode yB 0 = .ok (.iload_n 2, 1) := by decide +kernel
theorem d1 : decode yB 1 = .ok (.newarray .byte, 2) := by decide +kernel
theorem d3 : decode yB 3 = .ok (.astore_n 3, 1) := by decide +kernel
theorem d4 : decode yB 4 = .ok (.aload_n 0, 1) := by decide +kernel
theorem d5 : decode yB 5 = .ok (.iload_n 1, 1) := by decide +kernel
theorem d6 : decode yB 6 = .ok (.aload_n 3, 1) := by decide +kernel
theorem d7 : decode yB 7 = .ok (.iconst 0, 1) := by decide +kernel
theorem d8 : decode yB 8 = .ok (.iload_n 2, 1) := by decide +kernel
theorem d9 : decode yB 9 = .ok (.invokestatic 115, 3) := by decide +kernel
theorem d12 : decode yB 12 = .ok (.istore 4, 2) := by decide +kernel
theorem d14 : decode yB 14 = .ok (.iload 4, 2) := by decide +kernel
theorem d16 : decode yB 16 = .ok (.iload_n 2, 1) := by decide +kernel
theorem d17 : decode yB 17 = .ok (.if_icmp (.eq) 40, 3) := by decide +kernel
theorem d57 : decode yB 57 = .ok (.aload_n 3, 1) := by decide +kernel
theorem d58 : decode yB 58 = .ok (.areturn, 1) := by decide +kernel
def site : List Cond := [.arrayClass .byte, Cmp5.tab] ++ staticW U16 115 Cmp5.yN
def tab : Cond := tabOf yN yB 6 (some (.array .byte)) site
def P (b : Addr) (A : Cell) (o len : Nat) (args : Array Value) (s : State) : Prop := args = #[.ref b, .int (Int32.ofNat o), .int (Int32.ofNat len)] ∧ Ch b A s ∧ o + len ≤ A.slots.size ∧ len ≤ 536870912 ∧ ∀ i, i < len → ¬ 255 < cv A (o + i)
def E (b : Addr) (A : Cell) (o len : Nat) (r : Option Value) (s u : State) : Prop := NewArr .byte "[B" len (fun j => .int (lo8 (cv A (o + j)))) r s u ∧ u.heap.size = s.heap.size + 1
/-- no char of the range above 255: a new byte[] of their low bytes -/
theorem law (l : Launch) (b : Addr) (A : Cell) (o len : Nat) : Law l yN 3 3 1 18 yB 6 (some (.array .byte)) site (P b A o len) (E b A o len) [] 1 len := by
  refine Law.of_walk (plainFor_of_name (by decide +kernel)) (by decide +kernel) (by decide +kernel) (by decide) (fun _ _ h => by rw [h.1]; rfl) (fun _ U U' hal hh h => ⟨h.1, h.2.1.mv hal hh, h.2.2⟩) (fun r U U' V V' h1 hal h2 h => ⟨NewArr.mv r U U' V V' h1 hal h2 h.1, by rw [h1, h2]; exact h.2⟩) ?_
  intro p e s m args below meth c s₁ X0 hexec hbytes hml hret hlk hnm hown hh0 W hP
  obtain ⟨rfl, hA, l1, l2, hp⟩ := hP
  have a31 := hA.1.2.2.2
  have c1 : Steps p.tables e below (s₁.setTop (entryFrame m #[.ref b, .int (Int32.ofNat o), .int (Int32.ofNat len)] 6)) (s₁.setTop (mkF m 0 #[.val (.ref b), .val (.int (Int32.ofNat o)), .val (.int (Int32.ofNat len)), .unset, .unset, .unset] [])) := entry rfl
  have c2 : Steps p.tables e below (s₁.setTop (entryFrame m #[.ref b, .int (Int32.ofNat o), .int (Int32.ofNat len)] 6)) (s₁.setTop (mkF m 1 #[.val (.ref b), .val (.int (Int32.ofNat o)), .val (.int (Int32.ofNat len)), .unset, .unset, .unset] [.int (Int32.ofNat len)])) := c1.trans (by
    refine XS.iloadN X0.here hexec rfl (hb hbytes d0) rfl ?_
    exact Steps.refl _)
  obtain ⟨T3, B3, X3, ba3, bs3, bv3, bh3, bf3, st3⟩ := X0.anew hexec (atype := .byte) (wk W (.arrayClass .byte)) rfl (by show len * 1 ≤ _; omega) (by omega) (g := (mkF m 1 #[.val (.ref b), .val (.int (Int32.ofNat o)), .val (.int (Int32.ofNat len)), .unset, .unset, .unset] [.int (Int32.ofNat len)])) rfl (hb hbytes d1) (rest := []) rfl (Nat.le_refl _) (by show 0 + len ≤ len; omega)
  rw [hh0] at ba3 st3
  have kp3 : XT.Kept s T3 := (XT.Kept.of_eq hh0).push bh3
  have hA3 := hA.keep X3.warmed.alike (kp3 _ _ hA.1.1)
  have hne : b ≠ s.heap.size := hA.1.ne
  have c4 : Steps p.tables e below (s₁.setTop (entryFrame m #[.ref b, .int (Int32.ofNat o), .int (Int32.ofNat len)] 6)) (T3.setTop (mkF m 3 #[.val (.ref b), .val (.int (Int32.ofNat o)), .val (.int (Int32.ofNat len)), .unset, .unset, .unset] [.ref s.heap.size])) := c2.trans (st3 _ (Steps.refl _))
  have c5 : Steps p.tables e below (s₁.setTop (entryFrame m #[.ref b, .int (Int32.ofNat o), .int (Int32.ofNat len)] 6)) (T3.setTop (mkF m 9 #[.val (.ref b), .val (.int (Int32.ofNat o)), .val (.int (Int32.ofNat len)), .val (.ref s.heap.size), .unset, .unset] [.int (Int32.ofNat len), .int 0, .ref s.heap.size, .int (Int32.ofNat o), .ref b])) := c4.trans (by
    refine XS.astoreN X3.here hexec rfl (hb hbytes d3) rfl rfl rfl ?_
    refine XS.aloadN X3.here hexec rfl (hb hbytes d4) rfl rfl ?_
    refine XS.iloadN X3.here hexec rfl (hb hbytes d5) rfl ?_
    refine XS.aloadN X3.here hexec rfl (hb hbytes d6) rfl rfl ?_
    refine iconstV X3.here hexec rfl 0 (hb hbytes d7) (by decide) ?_
    refine XS.iloadN X3.here hexec rfl (hb hbytes d8) rfl ?_
    exact Steps.refl _)
  obtain ⟨v6, T6, X6, E6, g6⟩ := X3.callS hexec (Cmp5.law l b A s.heap.size B3 o 0 len) hown (wks W (staticW U16 115 Cmp5.yN)) (wk W Cmp5.tab) (W := 0) (Nat.le_of_ble_eq_true rfl) (Nat.le_of_ble_eq_true rfl) (Nat.le_refl _) (by show 0 + len + 0 ≤ len; omega) (g := (mkF m 9 #[.val (.ref b), .val (.int (Int32.ofNat o)), .val (.int (Int32.ofNat len)), .val (.ref s.heap.size), .unset, .unset] [.int (Int32.ofNat len), .int (Int32.ofNat 0), .ref s.heap.size, .int (Int32.ofNat o), .ref b])) rfl (by rw [hml]; rfl) c5 (argsL := [.ref b, .int (Int32.ofNat o), .ref s.heap.size, .int (Int32.ofNat 0), .int (Int32.ofNat len)]) (rest := []) rfl rfl (by show 2 * 0 + 0 ≤ _; decide) (hb hbytes d9) (⟨rfl, hA3, ba3, hne, l1, by rw [bs3]; simp, hp⟩)
  obtain ⟨rfl, B6, p6, f6⟩ := E6
  have c7 : Steps p.tables e below (s₁.setTop (entryFrame m #[.ref b, .int (Int32.ofNat o), .int (Int32.ofNat len)] 6)) (T6.setTop (mkF m 12 #[.val (.ref b), .val (.int (Int32.ofNat o)), .val (.int (Int32.ofNat len)), .val (.ref s.heap.size), .unset, .unset] [.int (Int32.ofNat len)])) := g6
  have c8 : Steps p.tables e below (s₁.setTop (entryFrame m #[.ref b, .int (Int32.ofNat o), .int (Int32.ofNat len)] 6)) (T6.setTop (mkF m 58 #[.val (.ref b), .val (.int (Int32.ofNat o)), .val (.int (Int32.ofNat len)), .val (.ref s.heap.size), .val (.int (Int32.ofNat len)), .unset] [.ref s.heap.size])) := c7.trans (by
    refine XS.istore X6.here hexec rfl (hb hbytes d12) rfl rfl ?_
    refine XS.iload X6.here hexec rfl (hb hbytes d14) rfl ?_
    refine XS.iloadN X6.here hexec rfl (hb hbytes d16) rfl ?_
    refine XS.icmpYes X6.here hexec rfl (pc0 := 17) rfl (hb hbytes d17) rfl (ii_eq_t rfl) (by decide) rfl ?_
    refine XS.aloadN X6.here hexec rfl (hb hbytes d57) rfl rfl ?_
    exact Steps.refl _)
  have X8 := X6.wide (L' := []) (cells' := 1) (slots' := len) (fun x hx hlt => by
    simp only [List.nil_append, copyLocs, List.mem_map, List.mem_range] at hx
    obtain ⟨i, -, rfl⟩ := hx
    exact absurd hlt (Nat.lt_irrefl _)) (Nat.le_refl _) (by omega)
  exact ⟨T6, some (.ref s.heap.size), _, _, _, X8, rfl, rfl, rfl, (fun h => by cases h), ⟨⟨rfl, B6, ba3.like (X3.warmed.alike.symm.trans X6.warmed.alike) p6.1 f6.1 f6.2.1 f6.2.2.1, f6.2.1.trans bv3, by rw [X6.warmed.alike.findClass, f6.1]; exact bf3, by rw [f6.2.2.1, bs3]; simp, fun j hj => by rw [f6.2.2.2 j, if_pos (by omega)]; rfl, kp3.put p6 (Nat.le_refl _)⟩, by rw [p6.2.2, bh3, hh0]; simp⟩, fun fs hl => c8.trans (X8.areturnOut hexec rfl hret rfl (hb hbytes d58) hl)⟩
end Cmp3
namespace CodL
def yN : MethodName := ⟨"java/lang/StringUTF16", "coderFromArrayLen", "([BI)B"⟩
abbrev yB : ByteArray := jdk_52_method_15_code
theorem d0 : decode yB 0 = .ok (.iload_n 1, 1) := by decide +kernel
theorem d1 : decode yB 1 = .ok (.aload_n 0, 1) := by decide +kernel
theorem d2 : decode yB 2 = .ok (.arraylength, 1) := by decide +kernel
theorem d3 : decode yB 3 = .ok (.isub, 1) := by decide +kernel
theorem d4 : decode yB 4 = .ok (.bipush 31, 2) := by decide +kernel
theorem d6 : decode yB 6 = .ok (.iushr, 1) := by decide +kernel
theorem d7 : decode yB 7 = .ok (.i2b, 1) := by decide +kernel
theorem d8 : decode yB 8 = .ok (.ireturn, 1) := by decide +kernel
def site : List Cond := []
def tab : Cond := tabOf yN yB 2 (some .byte) site
def P (d : Addr) (B : Cell) (args : Array Value) (s : State) : Prop := args = #[.ref d, .int (Int32.ofNat B.slots.size)] ∧ Arr .byte d B s
def E (r : Option Value) (s u : State) : Prop := XT.PureE (some (.int 0)) r s u
/-- an array as long as the number of chars: LATIN1 -/
theorem law (l : Launch) (d : Addr) (B : Cell) : Law l yN 2 2 0 0 yB 2 (some .byte) site (P d B) E [] 0 0 := by
  refine Law.of_walk (plainFor_of_name (by decide +kernel)) (by decide +kernel) (by decide +kernel) (by decide) (fun _ _ h => by rw [h.1]; rfl) (fun _ U U' hal hh h => ⟨h.1, h.2.mv hal hh⟩) (fun r U U' V V' h1 hal h2 h => XT.PureE.mv r U U' V V' h1 hal h2 h) ?_
  intro p e s m args below meth c s₁ X0 hexec hbytes hml hret hlk hnm hown hh0 W hP
  obtain ⟨rfl, hB⟩ := hP
  have hB0 := hB.mv X0.warmed.alike hh0
  have c1 : Steps p.tables e below (s₁.setTop (entryFrame m #[.ref d, .int (Int32.ofNat B.slots.size)] 2)) (s₁.setTop (mkF m 0 #[.val (.ref d), .val (.int (Int32.ofNat B.slots.size))] [])) := entry rfl
  have c2 : Steps p.tables e below (s₁.setTop (entryFrame m #[.ref d, .int (Int32.ofNat B.slots.size)] 2)) (s₁.setTop (mkF m 2 #[.val (.ref d), .val (.int (Int32.ofNat B.slots.size))] [.ref d, .int (Int32.ofNat B.slots.size)])) := c1.trans (by
    refine XS.iloadN X0.here hexec rfl (hb hbytes d0) rfl ?_
    refine XS.aloadN X0.here hexec rfl (hb hbytes d1) rfl rfl ?_
    exact Steps.refl _)
  have c3 : Steps p.tables e below (s₁.setTop (entryFrame m #[.ref d, .int (Int32.ofNat B.slots.size)] 2)) (s₁.setTop (mkF m 8 #[.val (.ref d), .val (.int (Int32.ofNat B.slots.size))] [.int (lo8 (ushr (Int32.ofNat B.slots.size - Int32.ofNat B.slots.size) 31))])) := c2.trans (by
    refine X0.alen hexec hB0 rfl rfl (hb hbytes d2) ?_
    refine XS.isub X0.here hexec rfl (hb hbytes d3) rfl ?_
    refine bipushV X0.here hexec rfl 31 (hb hbytes d4) (by decide) ?_
    refine iushr X0.here hexec rfl (hb hbytes d6) rfl ?_
    refine i2b X0.here hexec rfl (hb hbytes d7) rfl ?_
    exact Steps.refl _)
  have e0 : lo8 (ushr (Int32.ofNat B.slots.size - Int32.ofNat B.slots.size) 31) = 0 := by rw [Int32.sub_self]; decide
  rw [e0] at c3
  exact ⟨s₁, some (.int 0), _, _, _, X0, rfl, rfl, rfl, (fun h => by cases h), ⟨rfl, hh0⟩, fun fs hl => c3.trans (X0.ireturnOut hexec hret rfl (Or.inr (Or.inr (Or.inl rfl))) (hb hbytes d8) hl)⟩
end CodL
/-- the String at a is Latin-1 over a new byte[] (the heap's one new cell): the low bytes of the len chars of A from o on; every cell but a is kept -/
def Got (a : Addr) (D : Cell) (fV fC : Field) (A : Cell) (o len : Nat) (r : Option Value) (s u : State) : Prop := r = none ∧ ∃ D' V : Cell, Blank "java/lang/String" a D' u ∧ Same D D' [fV.slot, fC.slot] ∧ D'.slots[fV.slot]? = some (.ref s.heap.size) ∧ D'.slots[fC.slot]? = some (.int 0) ∧ Arr .byte s.heap.size V u ∧ V.vm = .none ∧ u.vm.findClass "[B" = some V.cls ∧ V.slots.size = len ∧ (∀ j, j < len → V.slots[j]? = some (.int (lo8 (cv A (o + j))))) ∧ (∀ (y : Addr) (c : Cell), y ≠ a → s.heap[y]? = some c → u.heap[y]? = some c) ∧ u.heap.size = s.heap.size + 1
theorem Got.mv {a : Addr} {D A : Cell} {fV fC : Field} {o len : Nat} : ∀ r (U U' V V' : State), U'.heap = U.heap → V.vm.Alike V'.vm → V'.heap = V.heap → Got a D fV fC A o len r U V → Got a D fV fC A o len r U' V' :=
  fun r U U' V V' h1 hal h2 ⟨e0, D', X, a1, a2, a3, a4, a5, a6, a7, a8, a9, a10, a11⟩ => ⟨e0, D', X, a1.mv hal h2, a2, by rw [h1]; exact a3, a4, by rw [h1]; exact a5.mv hal h2, a6, by rw [hal.findClass]; exact a7, a8, a9, by rw [h1, h2]; exact a10, by rw [h1, h2]; exact a11⟩
namespace New4
def yN : MethodName := ⟨"java/lang/String", "<init>", "([CIILjava/lang/Void;)V"⟩
abbrev yB : ByteArray := jdk_42_method_149_code
theorem d0 : decode yB 0 = .ok (.aload_n 0, 1) := by decide +kernel
theorem d1 : decode yB 1 = .ok (.invokespecial 1, 3) := by decide +kernel
theorem d4 : decode yB 4 = .ok (.iload_n 3, 1) := by decide +kernel
theorem d5 : decode yB 5 = .ok (.ifCond (.ne) 22, 3) := by decide +kernel
theorem d27 : decode yB 27 = .ok (.getstatic 38, 3) := by decide +kernel
theorem d30 : decode yB 30 = .ok (.ifCond (.eq) 28, 3) := by decide +kernel
theorem d33 : decode yB 33 = .ok (.aload_n 1, 1) := by decide +kernel
theorem d34 : decode yB 34 = .ok (.iload_n 2, 1) := by decide +kernel
theorem d35 : decode yB 35 = .ok (.iload_n 3, 1) := by decide +kernel
theorem d36 : decode yB 36 = .ok (.invokestatic 177, 3) := by decide +kernel
theorem d39 : decode yB 39 = .ok (.astore 5, 2) := by decide +kernel
theorem d41 : decode yB 41 = .ok (.aload_n 0, 1) := by decide +kernel
theorem d42 : decode yB 42 = .ok (.aload 5, 2) := by decide +kernel
theorem d44 : decode yB 44 = .ok (.iload_n 3, 1) := by decide +kernel
theorem d45 : decode yB 45 = .ok (.invokestatic 47, 3) := by decide +kernel
theorem d48 : decode yB 48 = .ok (.putfield 15, 3) := by decide +kernel
theorem d51 : decode yB 51 = .ok (.aload_n 0, 1) := by decide +kernel
theorem d52 : decode yB 52 = .ok (.aload 5, 2) := by decide +kernel
theorem d54 : decode yB 54 = .ok (.putfield 9, 3) := by decide +kernel
theorem d57 : decode yB 57 = .ok (.return_, 1) := by decide +kernel
def site : List Cond := [.fieldLink "java/lang/String" 38 "java/lang/String" "COMPACT_STRINGS" "Z", Cmp3.tab, CodL.tab, .laysFinal "java/lang/String" "java/lang/String" "value" "[B", .fieldLink "java/lang/String" 9 "java/lang/String" "value" "[B", .laysFinal "java/lang/String" "java/lang/String" "coder" "B", .fieldLink "java/lang/String" 15 "java/lang/String" "coder" "B"] ++ objW "java/lang/String" 1 ++ staticW "java/lang/String" 177 Cmp3.yN ++ staticW "java/lang/String" 47 CodL.yN
def tab : Cond := tabOf yN yB 6 none site
def P (a : Addr) (D : Cell) (fV fC : Field) (b : Addr) (A : Cell) (z : Int32) (o len : Nat) (args : Array Value) (s : State) : Prop := args = #[.ref a, .ref b, .int (Int32.ofNat o), .int (Int32.ofNat len), .null] ∧ Blank "java/lang/String" a D s ∧ Found "java/lang/String" "value" "[B" fV s ∧ Found "java/lang/String" "coder" "B" fC s ∧ Ch b A s ∧ StaticIs s "java/lang/String" "COMPACT_STRINGS" "Z" (.int z) ∧ ¬ z = 0 ∧ 0 < len ∧ o + len ≤ A.slots.size ∧ len ≤ 536870912 ∧ ∀ i, i < len → ¬ 255 < cv A (o + i)
def E (a : Addr) (D : Cell) (fV fC : Field) (A : Cell) (o len : Nat) (r : Option Value) (s u : State) : Prop := Got a D fV fC A o len r s u
/-- len > 0, no char of the range above 255: a Latin-1 String of their low bytes -/
theorem law (l : Launch) (a : Addr) (D : Cell) (fV fC : Field) (b : Addr) (A : Cell) (z : Int32) (o len : Nat) : Law l yN 5 4 2 35 yB 6 none site (P a D fV fC b A z o len) (E a D fV fC A o len) [⟨a, fC.slot⟩, ⟨a, fV.slot⟩] 1 len := by
  refine Law.of_walk (plainFor_of_name (by decide +kernel)) (by decide +kernel) (by decide +kernel) (by decide) (fun _ _ h => by rw [h.1]; rfl) (fun _ U U' hal hh h => ⟨h.1, h.2.1.mv hal hh, h.2.2.1.al hal, h.2.2.2.1.al hal, h.2.2.2.2.1.mv hal hh, h.2.2.2.2.2.1.there hal hh, h.2.2.2.2.2.2⟩) (fun r U U' V V' h1 hal h2 h => Got.mv r U U' V V' h1 hal h2 h) ?_
  intro p e s m args below meth c s₁ X0 hexec hbytes hml hret hlk hnm hown hh0 W hP
  obtain ⟨rfl, hB, f1, f2, hA, s1, hz, l0, l1, l2, hp⟩ := hP
  have a31 := hA.1.2.2.2
  have c1 : Steps p.tables e below (s₁.setTop (entryFrame m #[.ref a, .ref b, .int (Int32.ofNat o), .int (Int32.ofNat len), .null] 6)) (s₁.setTop (mkF m 0 #[.val (.ref a), .val (.ref b), .val (.int (Int32.ofNat o)), .val (.int (Int32.ofNat len)), .val .null, .unset] [])) := entry rfl
  have c2 : Steps p.tables e below (s₁.setTop (entryFrame m #[.ref a, .ref b, .int (Int32.ofNat o), .int (Int32.ofNat len), .null] 6)) (s₁.setTop (mkF m 1 #[.val (.ref a), .val (.ref b), .val (.int (Int32.ofNat o)), .val (.int (Int32.ofNat len)), .val .null, .unset] [.ref a])) := c1.trans (by
    refine XS.aloadN X0.here hexec rfl (hb hbytes d0) rfl rfl ?_
    exact Steps.refl _)
  obtain ⟨T3, X3, q3, st3⟩ := X0.oinit hexec hown (wks W (objW "java/lang/String" 1)) (g := (mkF m 1 #[.val (.ref a), .val (.ref b), .val (.int (Int32.ofNat o)), .val (.int (Int32.ofNat len)), .val .null, .unset] [.ref a])) rfl (by rw [hml]; rfl) (rest := []) rfl (hb hbytes d1) (W := 0) (by show 2 * 0 + 0 ≤ _; decide) (Nat.le_of_ble_eq_true rfl) (Nat.le_of_ble_eq_true rfl)
  have hh3 := q3.trans hh0
  have c4 : Steps p.tables e below (s₁.setTop (entryFrame m #[.ref a, .ref b, .int (Int32.ofNat o), .int (Int32.ofNat len), .null] 6)) (T3.setTop (mkF m 27 #[.val (.ref a), .val (.ref b), .val (.int (Int32.ofNat o)), .val (.int (Int32.ofNat len)), .val .null, .unset] [])) := (c2.trans (st3 _ (Steps.refl _))).trans (by
    refine XS.iloadN X3.here hexec rfl (hb hbytes d4) rfl ?_
    refine XS.ifYes X3.here hexec rfl (pc0 := 5) rfl (hb hbytes d5) rfl (i0_ne_t (nz32 (by omega) l0)) (by decide) rfl ?_
    exact Steps.refl _)
  obtain ⟨T5, X5, q5, st5⟩ := X3.sget hexec hown (wk W (.fieldLink "java/lang/String" 38 "java/lang/String" "COMPACT_STRINGS" "Z")) s1 (fun _ _ h => by rw [hh3]; exact h) (g := (mkF m 27 #[.val (.ref a), .val (.ref b), .val (.int (Int32.ofNat o)), .val (.int (Int32.ofNat len)), .val .null, .unset] [])) rfl (hb hbytes d27)
  have hh5 := q5.trans hh3
  have c6 : Steps p.tables e below (s₁.setTop (entryFrame m #[.ref a, .ref b, .int (Int32.ofNat o), .int (Int32.ofNat len), .null] 6)) (T5.setTop (mkF m 30 #[.val (.ref a), .val (.ref b), .val (.int (Int32.ofNat o)), .val (.int (Int32.ofNat len)), .val .null, .unset] [.int z])) := c4.trans (st5 _ (Steps.refl _))
  have c7 : Steps p.tables e below (s₁.setTop (entryFrame m #[.ref a, .ref b, .int (Int32.ofNat o), .int (Int32.ofNat len), .null] 6)) (T5.setTop (mkF m 36 #[.val (.ref a), .val (.ref b), .val (.int (Int32.ofNat o)), .val (.int (Int32.ofNat len)), .val .null, .unset] [.int (Int32.ofNat len), .int (Int32.ofNat o), .ref b])) := c6.trans (by
    refine XS.ifNo X5.here hexec rfl (hb hbytes d30) rfl (i0_eq_f hz) ?_
    refine XS.aloadN X5.here hexec rfl (hb hbytes d33) rfl rfl ?_
    refine XS.iloadN X5.here hexec rfl (hb hbytes d34) rfl ?_
    refine XS.iloadN X5.here hexec rfl (hb hbytes d35) rfl ?_
    exact Steps.refl _)
  obtain ⟨v8, T8, X8, E8, g8⟩ := X5.callS hexec (Cmp3.law l b A o len) hown (wks W (staticW "java/lang/String" 177 Cmp3.yN)) (wk W Cmp3.tab) (W := 0) (Nat.le_of_ble_eq_true rfl) (Nat.le_of_ble_eq_true rfl) (Nat.le_refl _) (by show 0 + len ≤ len; omega) (g := (mkF m 36 #[.val (.ref a), .val (.ref b), .val (.int (Int32.ofNat o)), .val (.int (Int32.ofNat len)), .val .null, .unset] [.int (Int32.ofNat len), .int (Int32.ofNat o), .ref b])) rfl (by rw [hml]; rfl) c7 (argsL := [.ref b, .int (Int32.ofNat o), .int (Int32.ofNat len)]) (rest := []) rfl rfl (by show 2 * 0 + 0 ≤ _; decide) (hb hbytes d36) (⟨rfl, hA.mv X5.warmed.alike hh5, l1, l2, hp⟩)
  obtain ⟨e8, z8⟩ := E8
  obtain ⟨rfl, N, n1, n2, n3, n4, n5, n6⟩ := NewArr.mv _ T5 s _ _ hh5.symm (Vm.Alike.refl _) rfl e8
  rw [hh5] at z8
  have hB1 := hB.keep X8.warmed.alike (n6 _ _ hB.1)
  have hne : s.heap.size ≠ a := (Nat.ne_of_lt (Array.getElem?_eq_some_iff.mp hB.1).1).symm
  have c9 : Steps p.tables e below (s₁.setTop (entryFrame m #[.ref a, .ref b, .int (Int32.ofNat o), .int (Int32.ofNat len), .null] 6)) (T8.setTop (mkF m 39 #[.val (.ref a), .val (.ref b), .val (.int (Int32.ofNat o)), .val (.int (Int32.ofNat len)), .val .null, .unset] [.ref s.heap.size])) := g8
  have c10 : Steps p.tables e below (s₁.setTop (entryFrame m #[.ref a, .ref b, .int (Int32.ofNat o), .int (Int32.ofNat len), .null] 6)) (T8.setTop (mkF m 45 #[.val (.ref a), .val (.ref b), .val (.int (Int32.ofNat o)), .val (.int (Int32.ofNat len)), .val .null, .val (.ref s.heap.size)] [.int (Int32.ofNat N.slots.size), .ref s.heap.size, .ref a])) := by
    have hc : Steps p.tables e below (s₁.setTop (entryFrame m #[.ref a, .ref b, .int (Int32.ofNat o), .int (Int32.ofNat len), .null] 6)) (T8.setTop (mkF m 45 #[.val (.ref a), .val (.ref b), .val (.int (Int32.ofNat o)), .val (.int (Int32.ofNat len)), .val .null, .val (.ref s.heap.size)] [.int (Int32.ofNat len), .ref s.heap.size, .ref a])) := c9.trans (by
      refine XS.astore X8.here hexec rfl (hb hbytes d39) rfl rfl rfl ?_
      refine XS.aloadN X8.here hexec rfl (hb hbytes d41) rfl rfl ?_
      refine XS.aload X8.here hexec rfl (hb hbytes d42) rfl rfl ?_
      refine XS.iloadN X8.here hexec rfl (hb hbytes d44) rfl ?_
      exact Steps.refl _)
    rw [n4]; exact hc
  obtain ⟨v11, T11, X11, E11, g11⟩ := X8.callS hexec (CodL.law l s.heap.size N) hown (wks W (staticW "java/lang/String" 47 CodL.yN)) (wk W CodL.tab) (W := 1) (Nat.le_of_ble_eq_true rfl) (Nat.le_of_ble_eq_true rfl) (Nat.le_refl _) (by show 0 + len + 0 ≤ len; omega) (g := (mkF m 45 #[.val (.ref a), .val (.ref b), .val (.int (Int32.ofNat o)), .val (.int (Int32.ofNat len)), .val .null, .val (.ref s.heap.size)] [.int (Int32.ofNat N.slots.size), .ref s.heap.size, .ref a])) rfl (by rw [hml]; rfl) c10 (argsL := [.ref s.heap.size, .int (Int32.ofNat N.slots.size)]) (rest := [.ref a]) rfl rfl (by show 2 * 0 + (1 + 0) ≤ _; decide) (hb hbytes d45) (⟨rfl, n1⟩)
  obtain ⟨rfl, q11⟩ := E11
  have hB11 := hB1.mv (X8.warmed.alike.symm.trans X11.warmed.alike) q11
  have c12 : Steps p.tables e below (s₁.setTop (entryFrame m #[.ref a, .ref b, .int (Int32.ofNat o), .int (Int32.ofNat len), .null] 6)) (T11.setTop (mkF m 48 #[.val (.ref a), .val (.ref b), .val (.int (Int32.ofNat o)), .val (.int (Int32.ofNat len)), .val .null, .val (.ref s.heap.size)] [.int 0, .ref a])) := g11
  obtain ⟨T13, X13, p13, bl13, sl13, st13⟩ := X11.finit hexec hown (wk W (.fieldLink "java/lang/String" 15 "java/lang/String" "coder" "B")) (Or.inr ⟨_, (wk W (.laysFinal "java/lang/String" "java/lang/String" "coder" "B"))⟩) (Or.inl ⟨rfl, hnm⟩) f2 (Or.inl rfl) hB11 (t := .byte) (by decide +kernel) rfl (g := (mkF m 48 #[.val (.ref a), .val (.ref b), .val (.int (Int32.ofNat o)), .val (.int (Int32.ofNat len)), .val .null, .val (.ref s.heap.size)] [.int 0, .ref a])) rfl (rest := []) rfl (hb hbytes d48)
  have c14 : Steps p.tables e below (s₁.setTop (entryFrame m #[.ref a, .ref b, .int (Int32.ofNat o), .int (Int32.ofNat len), .null] 6)) (T13.setTop (mkF m 54 #[.val (.ref a), .val (.ref b), .val (.int (Int32.ofNat o)), .val (.int (Int32.ofNat len)), .val .null, .val (.ref s.heap.size)] [.ref s.heap.size, .ref a])) := (c12.trans (st13 _ (Steps.refl _))).trans (by
    refine XS.aloadN X13.here hexec rfl (hb hbytes d51) rfl rfl ?_
    refine XS.aload X13.here hexec rfl (hb hbytes d52) rfl rfl ?_
    exact Steps.refl _)
  obtain ⟨T15, X15, p15, bl15, sl15, st15⟩ := X13.finit hexec hown (wk W (.fieldLink "java/lang/String" 9 "java/lang/String" "value" "[B")) (Or.inr ⟨_, (wk W (.laysFinal "java/lang/String" "java/lang/String" "value" "[B"))⟩) (Or.inl ⟨rfl, hnm⟩) f1 (Or.inl rfl) bl13 (t := (.array .byte)) (by decide +kernel) rfl (g := (mkF m 54 #[.val (.ref a), .val (.ref b), .val (.int (Int32.ofNat o)), .val (.int (Int32.ofNat len)), .val .null, .val (.ref s.heap.size)] [.ref s.heap.size, .ref a])) rfl (rest := []) rfl (hb hbytes d54)
  have c16 : Steps p.tables e below (s₁.setTop (entryFrame m #[.ref a, .ref b, .int (Int32.ofNat o), .int (Int32.ofNat len), .null] 6)) (T15.setTop (mkF m 57 #[.val (.ref a), .val (.ref b), .val (.int (Int32.ofNat o)), .val (.int (Int32.ofNat len)), .val .null, .val (.ref s.heap.size)] [])) := c14.trans (st15 _ (Steps.refl _))
  have ap := apart (Or.inr ⟨_, (wk W (.laysFinal "java/lang/String" "java/lang/String" "value" "[B"))⟩) (Or.inr ⟨_, (wk W (.laysFinal "java/lang/String" "java/lang/String" "coder" "B"))⟩) f1 f2 (t₁ := .array .byte) (t₂ := .byte) (by decide +kernel) (by decide +kernel) (by decide)
  have al := X8.warmed.alike.symm.trans X15.warmed.alike
  have n7 : T11.heap[s.heap.size]? = some N := by rw [q11]; exact n1.1
  exact ⟨T15, none, _, _, _, X15, by simp, rfl, by omega, (fun _ => rfl), ⟨rfl, _, N, bl15, ((Same.refl D _).set _ (by simp)).set _ (by simp), sl15, (Cell.slots_setSlot_ne _ ap).trans sl13, n1.keep al (p15.other hne (p13.other hne n7)), n2, by rw [al.findClass]; exact n3, n4, n5, fun y c h1 h2 => p15.other h1 (p13.other h1 (by rw [q11]; exact n6 y c h2)), by rw [p15.2.2, p13.2.2, q11]; exact z8⟩, fun fs hl => c16.trans (X15.returnOut hexec hret (hb hbytes d57) hl)⟩
end New4
namespace New1
def yN : MethodName := ⟨"java/lang/String", "<init>", "([C)V"⟩
abbrev yB : ByteArray := jdk_42_method_3_code
theorem d0 : decode yB 0 = .ok (.aload_n 0, 1) := by decide +kernel
theorem d1 : decode yB 1 = .ok (.aload_n 1, 1) := by decide +kernel
theorem d2 : decode yB 2 = .ok (.iconst 0, 1) := by decide +kernel
theorem d3 : decode yB 3 = .ok (.aload_n 1, 1) := by decide +kernel
theorem d4 : decode yB 4 = .ok (.arraylength, 1) := by decide +kernel
theorem d5 : decode yB 5 = .ok (.aconst_null, 1) := by decide +kernel
theorem d6 : decode yB 6 = .ok (.invokespecial 27, 3) := by decide +kernel
theorem d9 : decode yB 9 = .ok (.return_, 1) := by decide +kernel
def site : List Cond := [New4.tab] ++ initW "java/lang/String" 27 New4.yN
def tab : Cond := tabOf yN yB 2 none site
def P (a : Addr) (D : Cell) (fV fC : Field) (b : Addr) (A : Cell) (z : Int32) (args : Array Value) (s : State) : Prop := args = #[.ref a, .ref b] ∧ Blank "java/lang/String" a D s ∧ Found "java/lang/String" "value" "[B" fV s ∧ Found "java/lang/String" "coder" "B" fC s ∧ Ch b A s ∧ StaticIs s "java/lang/String" "COMPACT_STRINGS" "Z" (.int z) ∧ ¬ z = 0 ∧ 0 < A.slots.size ∧ A.slots.size ≤ 536870912 ∧ ∀ i, i < A.slots.size → ¬ 255 < cv A i
def E (a : Addr) (D : Cell) (fV fC : Field) (A : Cell) (r : Option Value) (s u : State) : Prop := Got a D fV fC A 0 A.slots.size r s u
/-- new String(chars), not empty, no char above 255: a Latin-1 String of their low bytes -/
theorem law (l : Launch) (a : Addr) (D : Cell) (fV fC : Field) (b : Addr) (A : Cell) (z : Int32) : Law l yN 2 1 3 52 yB 2 none site (P a D fV fC b A z) (E a D fV fC A) [⟨a, fC.slot⟩, ⟨a, fV.slot⟩] 1 A.slots.size := by
  refine Law.of_walk (plainFor_of_name (by decide +kernel)) (by decide +kernel) (by decide +kernel) (by decide) (fun _ _ h => by rw [h.1]; rfl) (fun _ U U' hal hh h => ⟨h.1, h.2.1.mv hal hh, h.2.2.1.al hal, h.2.2.2.1.al hal, h.2.2.2.2.1.mv hal hh, h.2.2.2.2.2.1.there hal hh, h.2.2.2.2.2.2⟩) (fun r U U' V V' h1 hal h2 h => Got.mv r U U' V V' h1 hal h2 h) ?_
  intro p e s m args below meth c s₁ X0 hexec hbytes hml hret hlk hnm hown hh0 W hP
  obtain ⟨rfl, hB, f1, f2, hA, s1, hz, l0, l2, hp⟩ := hP
  have c1 : Steps p.tables e below (s₁.setTop (entryFrame m #[.ref a, .ref b] 2)) (s₁.setTop (mkF m 0 #[.val (.ref a), .val (.ref b)] [])) := entry rfl
  have c2 : Steps p.tables e below (s₁.setTop (entryFrame m #[.ref a, .ref b] 2)) (s₁.setTop (mkF m 6 #[.val (.ref a), .val (.ref b)] [.null, .int (Int32.ofNat A.slots.size), .int 0, .ref b, .ref a])) := c1.trans (by
    refine XS.aloadN X0.here hexec rfl (hb hbytes d0) rfl rfl ?_
    refine XS.aloadN X0.here hexec rfl (hb hbytes d1) rfl rfl ?_
    refine iconstV X0.here hexec rfl 0 (hb hbytes d2) (by decide) ?_
    refine XS.aloadN X0.here hexec rfl (hb hbytes d3) rfl rfl ?_
    refine X0.alen hexec (hA.1.mv X0.warmed.alike hh0) rfl rfl (hb hbytes d4) ?_
    refine XS.aconstNull X0.here hexec rfl (hb hbytes d5) ?_
    exact Steps.refl _)
  obtain ⟨v3, T3, X3, E3, g3⟩ := X0.callN hexec (New4.law l a D fV fC b A z 0 A.slots.size) rfl hown (wks W (initW "java/lang/String" 27 New4.yN)) (W New4.tab (by simp only [site, List.mem_cons, List.mem_append, true_or, or_true])) (W := 0) (Nat.le_of_ble_eq_true rfl) (Nat.le_of_ble_eq_true rfl) (Nat.le_refl _) (by show 0 + A.slots.size ≤ A.slots.size; omega) (g := (mkF m 6 #[.val (.ref a), .val (.ref b)] [.null, .int (Int32.ofNat A.slots.size), .int (Int32.ofNat 0), .ref b, .ref a])) rfl (by rw [hml]; rfl) c2 (argsL := [.ref b, .int (Int32.ofNat 0), .int (Int32.ofNat A.slots.size), .null]) (rest := []) rfl rfl (by show 2 * 0 + 0 ≤ _; decide) (hb hbytes d6) (⟨rfl, hB.mv X0.warmed.alike hh0, f1.al X0.warmed.alike, f2.al X0.warmed.alike, hA.mv X0.warmed.alike hh0, s1.there X0.warmed.alike hh0, hz, l0, by omega, l2, fun i hi => by rw [Nat.zero_add]; exact hp i hi⟩)
  have e0 := Got.mv _ s₁ s _ _ hh0.symm (Vm.Alike.refl _) rfl E3
  obtain rfl := e0.1
  have c4 : Steps p.tables e below (s₁.setTop (entryFrame m #[.ref a, .ref b] 2)) (T3.setTop (mkF m 9 #[.val (.ref a), .val (.ref b)] [])) := g3
  exact ⟨T3, none, _, _, _, X3, by simp, rfl, by omega, (fun _ => rfl), e0, fun fs hl => c4.trans (X3.returnOut hexec hret (hb hbytes d9) hl)⟩
theorem pays {l : Launch} {R : Room} {p : Program} {e : Env} {below : List Frame} {s : State} {sargs : Array Value} {len W : Nat} (a : Addr) (D : Cell) (fV fC : Field) (b : Addr) (A : Cell) (z : Int32) (htab : tab.before sargs s = true) (hfr : 4 ≤ R.frames) (hlo : W + 65 ≤ R.locals) :
    Back l R p e below s sargs yN len W (fun A₁ a₁ => A₁.cells + 1 ≤ R.cells ∧ A₁.slots + A.slots.size ≤ R.slots ∧ P a D fV fC b A z a₁ A₁.U) (fun A₁ _ v₁ B₁ => E a D fV fC A v₁ A₁.U B₁.U ∧ B₁.locs = A₁.locs ++ [⟨a, fC.slot⟩, ⟨a, fV.slot⟩] ∧ B₁.cells = A₁.cells + 1 ∧ B₁.slots = A₁.slots + A.slots.size) :=
  (law l a D fV fC b A z).pays htab hfr (by omega)
end New1
end StrChars
namespace StrChars.Road
open Jvm Sem ClassFile Op Lib Jvm.Stand Jvm.Free Jvm.Free.XT
open Jvm.Lib.Cold (StaticIs)
abbrev ST : String := "java/lang/String"
/-- every table word that New1's law asks, flat -/
abbrev words : List Jvm.Cond := [.code New1.yN New1.yB 2 none, .initialized ST, .methodLink ST 27 New4.yN, .instanceMethod New4.yN,
  .code New4.yN New4.yB 6 none, .fieldLink ST 38 ST "COMPACT_STRINGS" "Z", .laysFinal ST ST "value" "[B", .fieldLink ST 9 ST "value" "[B", .laysFinal ST ST "coder" "B", .fieldLink ST 15 ST "coder" "B",
  .methodLink ST 1 Lib.objectInit, .instanceMethod Lib.objectInit, .code Lib.objectInit ⟨#[0xb1]⟩ 1 none, .methodLink ST 177 Cmp3.yN, .static Cmp3.yN, .methodLink ST 47 CodL.yN, .static CodL.yN,
  .code Cmp3.yN Cmp3.yB 6 (some (.array .byte)), .initialized U16, .arrayClass .byte, .methodLink U16 115 Cmp5.yN, .static Cmp5.yN, .code Cmp5.yN Cmp5.yB 7 (some .int), .code CodL.yN CodL.yB 2 (some .byte)]
theorem tab_of {a : Array Value} {s : State} (h : ∀ w ∈ words, w.before a s = true) : New1.tab.before a s = true := by
  have h5 : Cmp5.tab.before a s = true := unparts (wk h (.code Cmp5.yN Cmp5.yB 7 (some .int))) (wks h (.initialized Cmp5.yN.cls :: Cmp5.site))
  have hc : CodL.tab.before a s = true := unparts (wk h (.code CodL.yN CodL.yB 2 (some .byte))) (wks h (.initialized CodL.yN.cls :: CodL.site))
  have q5 : ∀ w ∈ Cmp5.tab :: words, w.before a s = true := fun w hw => (List.mem_cons.mp hw).elim (fun e => e ▸ h5) (h w)
  have h3 : Cmp3.tab.before a s = true := unparts (wk q5 (.code Cmp3.yN Cmp3.yB 6 (some (.array .byte)))) (wks q5 (.initialized Cmp3.yN.cls :: Cmp3.site))
  have q3 : ∀ w ∈ Cmp3.tab :: CodL.tab :: words, w.before a s = true := fun w hw => (List.mem_cons.mp hw).elim (fun e => e ▸ h3) fun hw => (List.mem_cons.mp hw).elim (fun e => e ▸ hc) (h w)
  have h4 : New4.tab.before a s = true := unparts (wk q3 (.code New4.yN New4.yB 6 none)) (wks q3 (.initialized New4.yN.cls :: New4.site))
  have q4 : ∀ w ∈ New4.tab :: words, w.before a s = true := fun w hw => (List.mem_cons.mp hw).elim (fun e => e ▸ h4) (h w)
  exact unparts (wk q4 (.code New1.yN New1.yB 2 none)) (wks q4 (.initialized New1.yN.cls :: New1.site))
/-- the words ride from the start Z to the walk's own state -/
theorem moved {Z s : State} {a0 args : Array Value} (hZ : Z.Warmed39 s.vm) (hw : ∀ d ∈ words, d.before a0 Z = true) : ∀ d ∈ words, d.before args s = true := fun d hd => by
  have q := hw d hd
  have t : ∀ d ∈ words, d = .arrayClass .byte ∨ (d.onTables && d.keepsFace) = true := by decide +kernel
  rcases t d hd with rfl | t
  · exact RoadKit.mvA hZ q
  · exact RoadKit.mv hZ q t
/-- WHAT COMES BACK, over the tables of the start Z: h the heap at the call, h' behind it -/
def Q (Z : State) (x : Addr) (A : Cell) (h : Heap) (v : Option Value) (h' : Heap) (L : List Loc) : Prop := v = none ∧ (∀ y ∈ L, y.base = x) ∧ RoadKit.Keep h h' [x] ∧ h'.size = h.size + 1 ∧ RoadKit.Exa Z h' x ST ∧ RoadKit.Fld Z h' x ST "value" "[B" (.ref h.size) ∧ RoadKit.Fld Z h' x ST "coder" "B" (.int 0) ∧
  (∃ V : Cell, RoadKit.Arr Z h' h.size V .byte ∧ V.vm = .none ∧ Z.vm.findClass "[B" = some V.cls ∧ V.slots.size = A.slots.size ∧ ∀ j, j < A.slots.size → V.slots[j]? = some (.int (lo8 (cv A j)))) ∧
  ∀ (O n d : String) (w : Value), RoadKit.Fld Z h x O n d w → RoadKit.slotOf Z O n d ≠ RoadKit.slotOf Z ST "value" "[B" → RoadKit.slotOf Z O n d ≠ RoadKit.slotOf Z ST "coder" "B" → RoadKit.Fld Z h' x O n d w
/-- **new String(chars) AT A CALL, IN THE ROAD'S FORM**: for specialBack behind newO: x the fresh String, b the char[] with the cell A -/
theorem back {p : Program} {l : Launch} {e : Env} {R : Room} {s : State} {args : Array Value} {below : List Frame} {len W : Nat} {Z : State} {a0 : Array Value} {h : Heap} (hZ : Z.Warmed39 s.vm) (hw : ∀ d ∈ words, d.before a0 Z = true) {kI : Nat} (wi : (Jvm.Cond.instantiable ST kI).before a0 Z = true)
    {x b : Addr} {A : Cell} {z : Int32} {v0 c0 : Value} (E : RoadKit.Exa Z h x ST) (V : RoadKit.Fld Z h x ST "value" "[B" v0) (C : RoadKit.Fld Z h x ST "coder" "B" c0) (K : RoadKit.Arr Z h b A .char) (hty : Typed .char A) (S : RoadKit.Sta Z h ST "COMPACT_STRINGS" "Z" (.int z)) (hz : ¬ z = 0)
    (l0 : 0 < A.slots.size) (l2 : A.slots.size ≤ 536870912) (hp : ∀ i, i < A.slots.size → ¬ 255 < cv A i) (hfr : 4 ≤ R.frames) (hlo : W + 65 ≤ R.locals) :
    Back l R p e below s args New1.yN len W (fun P a => a = #[.ref x, .ref b] ∧ P.U.heap = h ∧ P.cells + 1 ≤ R.cells ∧ P.slots + A.slots.size ≤ R.slots)
      (fun P _ v B => ∃ L, Q Z x A h v B.U.heap L ∧ B.locs = P.locs ++ L ∧ B.cells = P.cells + 1 ∧ B.slots = P.slots + A.slots.size) := by
  intro m meth c P g ig mk a X hg hsize hdg hW hn hp'
  obtain ⟨rfl, rfl, r1, r2⟩ := hp'
  have al : Z.vm.Alike P.U.vm := hZ.alike.trans X.warmed.alike
  obtain ⟨D, cfV, kV, iV, fV, hD, gV, stV, knV, obV, asV, slV⟩ := id V
  obtain ⟨D', cfC, kC, iC, fC, hD', gC, stC, -, -, asC, slC⟩ := id C
  cases hD.symm.trans hD'
  obtain ⟨D2, kD, e1, e2, e3, e4, e5⟩ := id E
  cases hD.symm.trans e1
  obtain ⟨c2, k2, i1, i2, i3, -⟩ := Cond.instantiable_spec wi
  cases e2.symm.trans i1
  cases e3.symm.trans i2
  obtain ⟨kU, u1, u2⟩ := al.2.2 _ _ e3
  have hB : Blank ST x D P.U := ⟨hD, ⟨knV, fun q hq => by rw [hq] at obV; cases obV⟩, by rw [al.findClass]; exact e2, kU, u1, by rw [u2]; exact i3, by rw [u2]; exact e5 i3⟩
  have F1 : Found ST "value" "[B" fV P.U := ⟨SBG.found_only al ⟨cfV, kV, iV, gV⟩, stV⟩
  have F2 : Found ST "coder" "B" fC P.U := ⟨SBG.found_only al ⟨cfC, kC, iC, gC⟩, stC⟩
  have hA : Ch b A P.U := ⟨⟨K.1, State.isArrayOf_alike al K.2.1, K.2.2, by omega⟩, hty⟩
  have hS : StaticIs P.U ST "COMPACT_STRINGS" "Z" (.int z) := by
    obtain ⟨cfS, iS, kS, fS, st, cS, t1, t2, t3, t4, t5, t6, t7⟩ := S
    exact StaticIs.there (s := { Z with heap := P.U.heap }) ⟨cfS, iS, kS, fS, st, cS, t1, t2, t3, t4, t5, (fun q => by rw [q] at t6; cases t6), t7⟩ al rfl
  obtain ⟨v, B, X', ⟨⟨hv, E', V', q1, q2, q3, q4, q5, q6, q7, q8, q9, q10, q11⟩, hl, hc, hs⟩, st⟩ := New1.pays x D fV fC b A z (tab_of (moved hZ hw)) hfr hlo m meth c P g ig mk _ X hg hsize hdg hW hn ⟨r1, r2, rfl, hB, F1, F2, hA, hS, hz, l0, l2, hp⟩
  have al' : Z.vm.Alike B.U.vm := hZ.alike.trans X'.warmed.alike
  have hsz : E'.slots.size = D.slots.size := by
    obtain ⟨-, -, -, kB, w1, w2, w3⟩ := q1
    obtain ⟨kB', y1, y2⟩ := al'.2.2 _ _ e3
    rw [q2.2.1] at w1
    cases w1.symm.trans y1
    rw [w3, e5 i3, y2]
  refine ⟨v, B, X', ⟨_, ⟨hv, ?_, ⟨by omega, fun y cy hy hn' => q10 y cy (by simpa using hn') hy, fun y cy hy => ?_⟩, q11, ⟨E', _, q1.1, by rw [q2.2.1]; exact e2, by rw [q2.2.1]; exact e3, by rw [q2.1]; exact obV, fun _ => by rw [hsz]; exact e5 i3⟩,
    ⟨E', cfV, kV, iV, fV, q1.1, gV, stV, by rw [q2.1]; exact knV, by rw [q2.1]; exact obV, by rw [q2.2.1]; exact asV, q3⟩, ⟨E', cfC, kC, iC, fC, q1.1, gC, stC, by rw [q2.1]; exact knV, by rw [q2.1]; exact obV, by rw [q2.2.1]; exact asC, q4⟩,
    ⟨V', ⟨q5.1, State.isArrayOf_alike al'.symm q5.2.1, q5.2.2.1⟩, q6, by rw [← al'.findClass]; exact q7, q8, fun j hj => by have := q9 j hj; rwa [Nat.zero_add] at this⟩, fun O n d w F n1 n2 => ?_⟩, hl, hc, hs⟩, st⟩
  · intro y hy
    simp only [List.mem_cons, List.not_mem_nil, or_false] at hy
    rcases hy with rfl | rfl <;> rfl
  · by_cases q : y = x
    · subst q
      cases hD.symm.trans hy
      exact ⟨E', q1.1, q2.2.1, q2.1, hsz⟩
    · exact ⟨cy, q10 y cy q hy, rfl, rfl, rfl⟩
  · obtain ⟨D3, cf, k, i, f, g1, g2, g3, g4, g5, g6, g7⟩ := F
    cases hD.symm.trans g1
    simp only [RoadKit.slotOf, g2, gV, gC, Option.map_some, Option.getD_some] at n1 n2
    exact ⟨E', cf, k, i, f, q1.1, g2, g3, by rw [q2.1]; exact g4, by rw [q2.1]; exact g5, by rw [q2.2.1]; exact g6, by rw [q2.2.2 f.slot (by simp [n1, n2])]; exact g7⟩
end StrChars.Road
namespace StrChars.Road
open Jvm Sem ClassFile Op Lib Jvm.Stand Jvm.Free Jvm.Free.XT
/-- WHAT COMES BACK, the byte[] as a list of values -/
def QA (Z : State) (x : Addr) (zn : Int32) (cs : List Int32) (h : Heap) (v : Option Value) (h' : Heap) (L : List Loc) : Prop := v = none ∧ (∀ y ∈ L, y.base = x) ∧ RoadKit.Keep h h' [x] ∧ h'.size = h.size + 1 ∧ RoadKit.Exa Z h' x ST ∧ RoadKit.Fld Z h' x ST "value" "[B" (.ref h.size) ∧ RoadKit.Fld Z h' x ST "coder" "B" (.int 0) ∧
  (∃ kb, Z.vm.findClass "[B" = some kb ∧ RoadKit.Arv Z h' h.size kb .byte zn (cs.map fun c => .int (lo8 c)) (.int 0)) ∧
  ∀ (O n d : String) (w : Value), RoadKit.Fld Z h x O n d w → RoadKit.slotOf Z O n d ≠ RoadKit.slotOf Z ST "value" "[B" → RoadKit.slotOf Z O n d ≠ RoadKit.slotOf Z ST "coder" "B" → RoadKit.Fld Z h' x O n d w
/-- **new String(chars) AT A CALL, THE ARRAYS AS LISTS**: the char[] at b holds cs, not empty, no char above 255 -/
theorem backArv {p : Program} {l : Launch} {e : Env} {R : Room} {s : State} {args : Array Value} {below : List Frame} {len W : Nat} {Z : State} {a0 : Array Value} {h : Heap} (hZ : Z.Warmed39 s.vm) (hw : ∀ d ∈ words, d.before a0 Z = true) {kI : Nat} (wi : (Jvm.Cond.instantiable ST kI).before a0 Z = true)
    {x b : Addr} {k : ClassId} {zn z : Int32} {cs : List Int32} {dv v0 c0 : Value} (E : RoadKit.Exa Z h x ST) (V : RoadKit.Fld Z h x ST "value" "[B" v0) (C : RoadKit.Fld Z h x ST "coder" "B" c0) (K : RoadKit.Arv Z h b k .char zn (cs.map Value.int) dv) (S : RoadKit.Sta Z h ST "COMPACT_STRINGS" "Z" (.int z)) (hz : ¬ z = 0)
    (hlen : zn.toNatClampNeg = cs.length) (h0 : 0 < cs.length) (hbig : cs.length ≤ 536870912) (hall : ∀ c ∈ cs, ¬ 255 < c) (hfr : 4 ≤ R.frames) (hlo : W + 65 ≤ R.locals) :
    Back l R p e below s args New1.yN len W (fun P a => a = #[.ref x, .ref b] ∧ P.U.heap = h ∧ P.cells + 1 ≤ R.cells ∧ P.slots + cs.length ≤ R.slots)
      (fun P _ v B => ∃ L, QA Z x zn cs h v B.U.heap L ∧ B.locs = P.locs ++ L ∧ B.cells = P.cells + 1 ∧ B.slots = P.slots + cs.length) := by
  obtain ⟨A, K1, K2, K3, K4, K5, K6⟩ := K
  have e : A.slots.size = cs.length := K3.trans hlen
  have hat : ∀ (i : Nat) (hi : i < cs.length), A.slots[i]? = some (.int cs[i]) := fun i hi => by rw [K5 i (by omega)]; simp [List.getD_eq_getElem?_getD, hi]
  have hcv : ∀ (i : Nat) (hi : i < cs.length), cv A i = cs[i] := fun i hi => by unfold cv; rw [hat i hi]
  have hty : Typed .char A := fun i v hv => by
    have hi : i < A.slots.size := (Array.getElem?_eq_some_iff.mp hv).1
    have q := K5 i hi
    rw [hv] at q
    rw [Option.some.inj q]
    exact K6 i hi
  refine Back.mono (back hZ hw wi E V C K1 hty S hz (by omega) (by omega) (fun i hi => by rw [hcv i (by omega)]; exact hall _ (List.getElem_mem _)) hfr hlo) (fun P a hp => ⟨hp.1, hp.2.1, hp.2.2.1, by rw [e]; exact hp.2.2.2⟩) (fun P a v B hp hq => ?_)
  obtain ⟨L, ⟨q1, q2, q3, q4, q5, q6, q7, ⟨V', v1, v2, v3, v4, v5⟩, q9⟩, hl, hc, hs⟩ := hq
  refine ⟨L, ⟨q1, q2, q3, q4, q5, q6, q7, ⟨V'.cls, v3, V', v1, rfl, by rw [v4, e, hlen], K4, fun i hi => ?_, fun i hi => ?_⟩, q9⟩, hl, hc, by rw [hs, e]⟩
  · have hi' : i < cs.length := by omega
    rw [v5 i (by omega), hcv i hi']; simp [List.getD_eq_getElem?_getD, hi']
  · have hi' : i < cs.length := by omega
    simp only [List.getD_eq_getElem?_getD, List.getElem?_map, List.getElem?_eq_getElem hi', Option.map_some, Option.getD_some]
    exact fits_lo8 _
end StrChars.Road
namespace StrChars.Road
open Jvm Sem ClassFile Op Lib Jvm.Stand Jvm.Free Jvm.Free.XT
/-- WHAT COMES BACK, in the writer's own shape -/
def QV (Z : State) (x : Addr) (N : Int32) (bs : List Int32) (h : Heap) (n0 : Nat) (v : Option Value) (h' : Heap) (L : List Loc) : Prop := v = none ∧ RoadKit.Fr n0 L ∧ RoadKit.Keep h h' [x] ∧ RoadKit.Exa Z h' x ST ∧ RoadKit.Fld Z h' x ST "coder" "B" (.int 0) ∧
  ∃ (t : Addr) (kb : ClassId), n0 ≤ t ∧ h.size ≤ t ∧ ¬ t = x ∧ RoadKit.Fld Z h' x ST "value" "[B" (.ref t) ∧ RoadKit.Arv Z h' t kb .byte N (bs.map Value.int) (.int 0)
/-- **new String(chars) AT A CALL, FOR THE WRITER**: a char[] of n known ints, each 0 to 255 -/
theorem backV {p : Program} {l : Launch} {e : Env} {R : Room} {s : State} {args : Array Value} {below : List Frame} {len W : Nat} {Z : State} {a0 : Array Value} {h : Heap} (hZ : Z.Warmed39 s.vm) (hw : ∀ d ∈ words, d.before a0 Z = true) {kI : Nat} (wi : (Jvm.Cond.instantiable ST kI).before a0 Z = true)
    {x b : Addr} {kC : ClassId} {cs bs : List Int32} {d v0 c0 : Value} {z N : Int32} {n n0 : Nat} (hx0 : n0 ≤ x) (hh0 : n0 ≤ h.size) (E : RoadKit.Exa Z h x ST) (V : RoadKit.Fld Z h x ST "value" "[B" v0) (C : RoadKit.Fld Z h x ST "coder" "B" c0) (K : RoadKit.Arv Z h b kC .char N (cs.map Value.int) d) (S : RoadKit.Sta Z h ST "COMPACT_STRINGS" "Z" (.int z)) (hz : ¬ z = 0)
    (hn : cs.length = n) (hN : N = Int32.ofNat n) (l0 : 0 < n) (l2 : n ≤ 4000) (hp : ∀ c ∈ cs, ¬ c < 0 ∧ ¬ (255 : Int32) < c) (hb : bs = cs.map (fun c => c.toInt8.toInt32)) (hfr : 4 ≤ R.frames) (hlo : W + 65 ≤ R.locals) :
    Back l R p e below s args (⟨"java/lang/String", "<init>", "([C)V"⟩ : MethodName) len W (fun P a => a = #[.ref x, .ref b] ∧ P.U.heap = h ∧ P.cells + 1 ≤ R.cells ∧ P.slots + n ≤ R.slots)
      (fun P _ v B => ∃ L, QV Z x N bs h n0 v B.U.heap L ∧ B.locs = P.locs ++ L ∧ B.cells = P.cells + 1 ∧ B.slots = P.slots + n) := by
  subst hn hN hb
  refine Back.mono (backArv hZ hw wi E V C K S hz (n32 (by omega)) l0 (by omega) (fun c hc => (hp c hc).2) hfr hlo) (fun P a hp => hp) (fun P a v B hp hq => ?_)
  obtain ⟨L, ⟨q1, q2, q3, q4, q5, q6, q7, ⟨kb, v1, v2⟩, q9⟩, hl, hc, hs⟩ := hq
  exact ⟨L, ⟨q1, fun y hy => by rw [q2 y hy]; exact hx0, q3, q5, q7, h.size, kb, hh0, Nat.le_refl _, Nat.ne_of_gt E.lt, q6, by rw [List.map_map]; exact v2⟩, hl, hc, hs⟩
end StrChars.Road
namespace StrChars
open Jvm Sem ClassFile Op Lib Jvm.Stand Jvm.Free.XT Jvm.Free.ALB Jvm.Free.JM Jvm.Free
open Jvm.Lib.Cold (StaticIs)
def hi8 (x : Int32) : Int32 := lo8 (x >>> ((8 : Int32) &&& 31))
theorem shr0 (c : Int32) : c >>> ((0 : Int32) &&& 31) = c := by
  have e : ((0 : Int32) &&& 31) = 0 := by decide
  rw [e]
  apply Int32.toBitVec_inj.mp
  rw [Int32.toBitVec_shiftRight]
  have e1 : ((0 : Int32).toBitVec.smod 32) = 0#32 := by decide
  rw [e1, BitVec.sshiftRight_eq']
  exact BitVec.sshiftRight_zero
end StrChars
namespace StrChars
open Jvm Sem ClassFile Op Lib Jvm.Stand Jvm.Free.XT Jvm.Free.ALB Jvm.Free.JM Jvm.Free
open Jvm.Lib.Cold (StaticIs)
theorem shr1 {n : Nat} (h : 2 * n < 2 ^ 31) : Int32.ofNat (2 * n) >>> ((1 : Int32) &&& 31) = Int32.ofNat n := by
  have e : ((1 : Int32) &&& 31) = 1 := by decide
  rw [e]
  apply Int32.toBitVec_inj.mp
  rw [Int32.toBitVec_shiftRight]
  have e1 : ((1 : Int32).toBitVec.smod 32) = 1#32 := by decide
  have hm : (BitVec.ofNat 32 (2 * n)).toNat = 2 * n := by rw [BitVec.toNat_ofNat, Nat.mod_eq_of_lt (by omega)]
  rw [e1, BitVec.sshiftRight_eq']
  apply BitVec.eq_of_toNat_eq
  show ((BitVec.ofNat 32 (2 * n)).sshiftRight 1).toNat = (BitVec.ofNat 32 n).toNat
  rw [BitVec.toNat_sshiftRight_of_msb_false (by rw [BitVec.msb_eq_false_iff_two_mul_lt, hm]; omega), hm, BitVec.toNat_ofNat, Nat.shiftRight_eq_div_pow]
  omega
/-- the array's cell V codes the n chars f 0 .. f (n - 1) by the coder cd, as the JDK does: coder 1 just where some char is above 255 -/
def Cod (cd : Int32) (n : Nat) (f : Nat → Int32) (V : Cell) : Prop := (cd = 0 ∧ V.slots.size = n ∧ ∀ j, j < n → V.slots[j]? = some (.int (lo8 (f j))) ∧ ¬ 255 < f j) ∨ (cd = 1 ∧ V.slots.size = 2 * n ∧ (∀ j, j < n → V.slots[2 * j]? = some (.int (lo8 (f j))) ∧ V.slots[2 * j + 1]? = some (.int (hi8 (f j)))) ∧ ∃ j, j < n ∧ 255 < f j)
theorem Cod.cd {cd : Int32} {n : Nat} {f : Nat → Int32} {V : Cell} (h : Cod cd n f V) : cd = 0 ∨ cd = 1 := h.imp (fun q => q.1) fun q => q.1
theorem Cod.len {cd : Int32} {n : Nat} {f : Nat → Int32} {V : Cell} (h : Cod cd n f V) (hs : V.slots.size < 2 ^ 31) : Int32.ofNat V.slots.size >>> (cd &&& 31) = Int32.ofNat n := by
  rcases h with ⟨rfl, h, -⟩ | ⟨rfl, h, -⟩
  · rw [shr0, h]
  · rw [h, shr1 (by omega)]
/-- **x is a String of the n chars f 0 .. f (n - 1)**, Latin-1 or UTF-16; its array at t has the cell V -/
def Txt (x t : Addr) (V : Cell) (cd : Int32) (n : Nat) (f : Nat → Int32) (U : State) : Prop := Exact "java/lang/String" x U ∧ Has x "java/lang/String" "value" "[B" (.ref t) U ∧ Has x "java/lang/String" "coder" "B" (.int cd) U ∧ XT.Arr .byte t V U ∧ Cod cd n f V ∧ ∀ j, j < n → ¬ f j < 0 ∧ ¬ 65535 < f j
theorem Txt.mv {x t : Addr} {V : Cell} {cd : Int32} {n : Nat} {f : Nat → Int32} {U U' : State} (h : Txt x t V cd n f U) (hal : U.vm.Alike U'.vm) (hh : U'.heap = U.heap) : Txt x t V cd n f U' := ⟨h.1.mv hal hh, h.2.1.mv hal hh, h.2.2.1.mv hal hh, h.2.2.2.1.mv hal hh, h.2.2.2.2⟩
namespace Cdr
def yN : MethodName := ⟨"java/lang/String", "coder", "()B"⟩
abbrev yB : ByteArray := jdk_42_method_152_code
theorem d0 : decode yB 0 = .ok (.getstatic 38, 3) := by decide +kernel
theorem d3 : decode yB 3 = .ok (.ifCond (.eq) 10, 3) := by decide +kernel
theorem d6 : decode yB 6 = .ok (.aload_n 0, 1) := by decide +kernel
theorem d7 : decode yB 7 = .ok (.getfield 15, 3) := by decide +kernel
theorem d10 : decode yB 10 = .ok (.goto 4, 3) := by decide +kernel
theorem d14 : decode yB 14 = .ok (.ireturn, 1) := by decide +kernel
def site : List Cond := [.fieldLink "java/lang/String" 38 "java/lang/String" "COMPACT_STRINGS" "Z", .fieldLink "java/lang/String" 15 "java/lang/String" "coder" "B"]
def tab : Cond := tabOf yN yB 1 (some .byte) site
def P (x : Addr) (cd z : Int32) (args : Array Value) (s : State) : Prop := args = #[.ref x] ∧ Has x "java/lang/String" "coder" "B" (.int cd) s ∧ (cd = 0 ∨ cd = 1) ∧ StaticIs s "java/lang/String" "COMPACT_STRINGS" "Z" (.int z) ∧ ¬ z = 0
def E (cd : Int32) (r : Option Value) (s u : State) : Prop := XT.PureE (some (.int cd)) r s u
theorem law (l : Launch) (x : Addr) (cd z : Int32) : Law l yN 1 0 0 0 yB 1 (some .byte) site (P x cd z) (E cd) [] 0 0 := by
  refine Law.of_walk (plainFor_of_name (by decide +kernel)) (by decide +kernel) (by decide +kernel) (by decide) (fun _ _ h => by rw [h.1]; rfl) (fun _ U U' hal hh h => ⟨h.1, h.2.1.mv hal hh, h.2.2.1, h.2.2.2.1.there hal hh, h.2.2.2.2⟩) (fun r U U' V V' h1 hal h2 h => XT.PureE.mv r U U' V V' h1 hal h2 h) ?_
  intro p e s m args below meth c s₁ X0 hexec hbytes hml hret hlk hnm hown hh0 W hP
  obtain ⟨rfl, hx, hc, s1, hz⟩ := hP
  have c1 : Steps p.tables e below (s₁.setTop (entryFrame m #[.ref x] 1)) (s₁.setTop (mkF m 0 #[.val (.ref x)] [])) := entry rfl
  obtain ⟨T2, X2, q2, st2⟩ := X0.sget hexec hown (wk W (.fieldLink "java/lang/String" 38 "java/lang/String" "COMPACT_STRINGS" "Z")) s1 (fun _ _ h => by rw [hh0]; exact h) (g := (mkF m 0 #[.val (.ref x)] [])) rfl (hb hbytes d0)
  have hh2 := q2.trans hh0
  have c3 : Steps p.tables e below (s₁.setTop (entryFrame m #[.ref x] 1)) (T2.setTop (mkF m 7 #[.val (.ref x)] [.ref x])) := (c1.trans (st2 _ (Steps.refl _))).trans (by
    refine XS.ifNo X2.here hexec rfl (hb hbytes d3) rfl (i0_eq_f hz) ?_
    refine XS.aloadN X2.here hexec rfl (hb hbytes d6) rfl rfl ?_
    exact Steps.refl _)
  obtain ⟨T4, X4, q4, st4⟩ := X2.hget hexec hown (wk W (.fieldLink "java/lang/String" 15 "java/lang/String" "coder" "B")) (hx.mv X2.warmed.alike hh2) (g := (mkF m 7 #[.val (.ref x)] [.ref x])) rfl (rest := []) rfl (hb hbytes d7)
  have c5 : Steps p.tables e below (s₁.setTop (entryFrame m #[.ref x] 1)) (T4.setTop (mkF m 14 #[.val (.ref x)] [.int cd])) := (c3.trans (st4 _ (Steps.refl _))).trans (by
    refine XS.goto X4.here hexec rfl (pc0 := 10) rfl (hb hbytes d10) (by decide) rfl ?_
    exact Steps.refl _)
  exact ⟨T4, some (.int cd), _, _, _, X4, rfl, rfl, rfl, (fun h => by cases h), ⟨rfl, q4.trans hh2⟩, fun fs hl => c5.trans (X4.ireturnOut hexec hret (by rcases hc with rfl | rfl <;> rfl) (Or.inr (Or.inr (Or.inl rfl))) (hb hbytes d14) hl)⟩
end Cdr
namespace Len
def yN : MethodName := ⟨"java/lang/String", "length", "()I"⟩
abbrev yB : ByteArray := jdk_42_method_54_code
theorem d0 : decode yB 0 = .ok (.aload_n 0, 1) := by decide +kernel
theorem d1 : decode yB 1 = .ok (.getfield 9, 3) := by decide +kernel
theorem d4 : decode yB 4 = .ok (.arraylength, 1) := by decide +kernel
theorem d5 : decode yB 5 = .ok (.aload_n 0, 1) := by decide +kernel
theorem d6 : decode yB 6 = .ok (.invokevirtual 335, 3) := by decide +kernel
theorem d9 : decode yB 9 = .ok (.ishr, 1) := by decide +kernel
theorem d10 : decode yB 10 = .ok (.ireturn, 1) := by decide +kernel
def site : List Cond := [.fieldLink "java/lang/String" 9 "java/lang/String" "value" "[B", Cdr.tab] ++ virtW "java/lang/String" 335 "java/lang/String" Cdr.yN Cdr.yN
def tab : Cond := tabOf yN yB 1 (some .int) site
def P (x t : Addr) (V : Cell) (cd : Int32) (n : Nat) (f : Nat → Int32) (z : Int32) (args : Array Value) (s : State) : Prop := args = #[.ref x] ∧ Txt x t V cd n f s ∧ StaticIs s "java/lang/String" "COMPACT_STRINGS" "Z" (.int z) ∧ ¬ z = 0
def E (n : Nat) (r : Option Value) (s u : State) : Prop := XT.PureE (some (.int (Int32.ofNat n))) r s u
/-- length() of a String of n chars, in either coding -/
theorem law (l : Launch) (x t : Addr) (V : Cell) (cd : Int32) (n : Nat) (f : Nat → Int32) (z : Int32) : Law l yN 1 0 1 13 yB 1 (some .int) site (P x t V cd n f z) (E n) [] 0 0 := by
  refine Law.of_walk (plainFor_of_name (by decide +kernel)) (by decide +kernel) (by decide +kernel) (by decide) (fun _ _ h => by rw [h.1]; rfl) (fun _ U U' hal hh h => ⟨h.1, h.2.1.mv hal hh, h.2.2.1.there hal hh, h.2.2.2⟩) (fun r U U' V V' h1 hal h2 h => XT.PureE.mv r U U' V V' h1 hal h2 h) ?_
  intro p e s m args below meth c s₁ X0 hexec hbytes hml hret hlk hnm hown hh0 W hP
  obtain ⟨rfl, hx, s1, hz⟩ := hP
  have v31 := hx.2.2.2.1.2.2.2
  have c1 : Steps p.tables e below (s₁.setTop (entryFrame m #[.ref x] 1)) (s₁.setTop (mkF m 1 #[.val (.ref x)] [.ref x])) := Steps.trans (entry rfl) (by
    show Steps p.tables e below (s₁.setTop (mkF m 0 #[.val (.ref x)] [])) _
    refine XS.aloadN X0.here hexec rfl (hb hbytes d0) rfl rfl ?_
    exact Steps.refl _)
  obtain ⟨T2, X2, q2, st2⟩ := X0.hget hexec hown (wk W (.fieldLink "java/lang/String" 9 "java/lang/String" "value" "[B")) (hx.mv X0.warmed.alike hh0).2.1 (g := (mkF m 1 #[.val (.ref x)] [.ref x])) rfl (rest := []) rfl (hb hbytes d1)
  have hh2 := q2.trans hh0
  have hx2 := hx.mv X2.warmed.alike hh2
  have c3 : Steps p.tables e below (s₁.setTop (entryFrame m #[.ref x] 1)) (T2.setTop (mkF m 6 #[.val (.ref x)] [.ref x, .int (Int32.ofNat V.slots.size)])) := (c1.trans (st2 _ (Steps.refl _))).trans (by
    refine X2.alen hexec hx2.2.2.2.1 rfl rfl (hb hbytes d4) ?_
    refine XS.aloadN X2.here hexec rfl (hb hbytes d5) rfl rfl ?_
    exact Steps.refl _)
  obtain ⟨v4, T4, X4, E4, g4⟩ := X2.callV hexec (Cdr.law l x cd z) hown (wks W (virtW "java/lang/String" 335 "java/lang/String" Cdr.yN Cdr.yN)) rfl (by decide) (wk W Cdr.tab) (W := 1) (Nat.le_of_ble_eq_true rfl) (Nat.le_of_ble_eq_true rfl) (Nat.le_refl _) (Nat.le_refl _) (hx2.1.fc X2.warmed.alike) hx2.1.is (g := (mkF m 6 #[.val (.ref x)] [.ref x, .int (Int32.ofNat V.slots.size)])) rfl (by rw [hml]; rfl) c3 (argsL := []) (rest := [.int (Int32.ofNat V.slots.size)]) rfl rfl (by show 2 * 0 + (1 + 0) ≤ _; decide) (hb hbytes d6) (⟨rfl, hx2.2.2.1, hx.2.2.2.2.1.cd, s1.there X2.warmed.alike hh2, hz⟩)
  obtain ⟨rfl, q4⟩ := E4
  have c5 : Steps p.tables e below (s₁.setTop (entryFrame m #[.ref x] 1)) (T4.setTop (mkF m 10 #[.val (.ref x)] [.int (Int32.ofNat V.slots.size >>> (cd &&& 31))])) := Steps.trans g4 (by
    refine ishr X4.here hexec rfl (hb hbytes d9) rfl ?_
    exact Steps.refl _)
  rw [hx.2.2.2.2.1.len v31] at c5
  exact ⟨T4, some (.int (Int32.ofNat n)), _, _, _, X4, rfl, rfl, rfl, (fun h => by cases h), ⟨rfl, q4.trans hh2⟩, fun fs hl => c5.trans (X4.ireturnOut hexec hret rfl (Or.inl rfl) (hb hbytes d10) hl)⟩
theorem pays {l : Launch} {R : Room} {p : Program} {e : Env} {below : List Frame} {s : State} {sargs : Array Value} {len W : Nat} (x t : Addr) (V : Cell) (cd : Int32) (n : Nat) (f : Nat → Int32) (z : Int32) (htab : tab.before sargs s = true) (hfr : 2 ≤ R.frames) (hlo : W + 25 ≤ R.locals) :
    Back l R p e below s sargs yN len W (fun A₁ a₁ => A₁.cells + 0 ≤ R.cells ∧ A₁.slots + 0 ≤ R.slots ∧ P x t V cd n f z a₁ A₁.U) (fun A₁ _ v₁ B₁ => E n v₁ A₁.U B₁.U ∧ B₁.locs = A₁.locs ++ [] ∧ B₁.cells = A₁.cells + 0 ∧ B₁.slots = A₁.slots + 0) :=
  (law l x t V cd n f z).pays htab hfr (by omega)
end Len
end StrChars
namespace StrChars.Road
open Jvm Sem ClassFile Op Lib Jvm.Stand Jvm.Free Jvm.Free.XT
open Jvm.Lib.Cold (StaticIs)
theorem consq {a : Array Value} {s : State} {c : Jvm.Cond} {L : List Jvm.Cond} (h0 : c.before a s = true) (h : ∀ w ∈ L, w.before a s = true) : ∀ w ∈ c :: L, w.before a s = true := fun w hw => (List.mem_cons.mp hw).elim (fun e => e ▸ h0) (h w)
/-- the words of String.length(), either coding -/
abbrev wordsLen : List Jvm.Cond := [.code Len.yN Len.yB 1 (some .int), .initialized ST, .fieldLink ST 9 ST "value" "[B", .fieldLink ST 38 ST "COMPACT_STRINGS" "Z", .fieldLink ST 15 ST "coder" "B", .code Cdr.yN Cdr.yB 1 (some .byte), .methodLink ST 335 Cdr.yN, .declares Cdr.yN, .selects ST Cdr.yN Cdr.yN, .instanceMethod Cdr.yN]
theorem tabLen_of {a : Array Value} {s : State} (h : ∀ w ∈ wordsLen, w.before a s = true) : Len.tab.before a s = true := by
  have hc : Cdr.tab.before a s = true := unparts (wk h (.code Cdr.yN Cdr.yB 1 (some .byte))) (wks h (.initialized Cdr.yN.cls :: Cdr.site))
  have q := consq hc h
  exact unparts (wk q (.code Len.yN Len.yB 1 (some .int))) (wks q (.initialized Len.yN.cls :: Len.site))
theorem movedLen {Z s : State} {a0 args : Array Value} (hZ : Z.Warmed39 s.vm) (hw : ∀ d ∈ wordsLen, d.before a0 Z = true) : ∀ d ∈ wordsLen, d.before args s = true := fun d hd => by
  have q := hw d hd
  have t : ∀ d ∈ wordsLen, d = .arrayClass .byte ∨ (d.onTables && d.keepsFace) = true := by decide +kernel
  rcases t d hd with rfl | t
  · exact RoadKit.mvA hZ q
  · exact RoadKit.mv hZ q t
/-- the bytes of the chars cs, low before high -/
def wideBytes : List Int32 → List Value
  | [] => []
  | c :: cs => .int (lo8 c) :: .int (hi8 c) :: wideBytes cs
theorem wide_lo (d : Value) : ∀ (cs : List Int32) (j : Nat), j < cs.length → (wideBytes cs).getD (2 * j) d = .int (lo8 (cs.getD j 0))
  | [], j, h => absurd h (Nat.not_lt_zero j)
  | c :: cs, 0, _ => rfl
  | c :: cs, j + 1, h => by
    have q := wide_lo d cs j (by simpa using h)
    rw [show 2 * (j + 1) = 2 * j + 1 + 1 from by omega]
    simpa [wideBytes] using q
theorem wide_hi (d : Value) : ∀ (cs : List Int32) (j : Nat), j < cs.length → (wideBytes cs).getD (2 * j + 1) d = .int (hi8 (cs.getD j 0))
  | [], j, h => absurd h (Nat.not_lt_zero j)
  | c :: cs, 0, _ => rfl
  | c :: cs, j + 1, h => by
    have q := wide_hi d cs j (by simpa using h)
    rw [show 2 * (j + 1) + 1 = 2 * j + 1 + 1 + 1 from by omega]
    simpa [wideBytes] using q
theorem low_at (d : Value) (cs : List Int32) (j : Nat) (h : j < cs.length) : (cs.map fun c => Value.int (lo8 c)).getD j d = .int (lo8 (cs.getD j 0)) := by
  simp [List.getD_eq_getElem?_getD, h]
/-- an array of N2 bytes vs codes the chars cs by the coder cd -/
def CodA (cs : List Int32) (cd N2 : Int32) (vs : List Value) : Prop := (cd = 0 ∧ N2 = Int32.ofNat cs.length ∧ vs = (cs.map fun c => Value.int (lo8 c)) ∧ ∀ c ∈ cs, ¬ 255 < c) ∨ (cd = 1 ∧ N2 = Int32.ofNat (2 * cs.length) ∧ vs = wideBytes cs ∧ ∃ c ∈ cs, 255 < c)
theorem CodA.cod {cs : List Int32} {cd N2 : Int32} {vs : List Value} {V : Cell} (h : CodA cs cd N2 vs) (hn : 2 * cs.length < 2 ^ 31) (hs : V.slots.size = N2.toNatClampNeg) (hv : RoadKit.Has V vs (.int 0)) : Cod cd cs.length (fun j => cs.getD j 0) V := by
  rcases h with ⟨rfl, rfl, rfl, h⟩ | ⟨rfl, rfl, rfl, c, hc, hw⟩
  · rw [n32 (by omega)] at hs
    exact Or.inl ⟨rfl, hs, fun j hj => ⟨by rw [hv j (by omega), low_at _ _ _ hj], by
      have e : cs.getD j 0 = cs[j] := by simp [List.getD_eq_getElem?_getD, hj]
      show ¬ 255 < cs.getD j 0
      rw [e]; exact h _ (List.getElem_mem _)⟩⟩
  · rw [n32 (by omega)] at hs
    obtain ⟨j, hj, rfl⟩ := List.getElem_of_mem hc
    exact Or.inr ⟨rfl, hs, fun j hj => ⟨by rw [hv _ (by omega), wide_lo _ _ _ hj], by rw [hv _ (by omega), wide_hi _ _ _ hj]⟩, j, hj, by
      have e : cs.getD j 0 = cs[j] := by simp [List.getD_eq_getElem?_getD, hj]
      show 255 < cs.getD j 0
      rw [e]; exact hw⟩
/-- an object of exactly java/lang/String, its two fields found: as the laws ask it -/
theorem strObj {Z U : State} {a0 : Array Value} {kI : Nat} (wi : (Jvm.Cond.instantiable ST kI).before a0 Z = true) (al : Z.vm.Alike U.vm) {x : Addr} {v0 c0 : Value} (E : RoadKit.Exa Z U.heap x ST) (V : RoadKit.Fld Z U.heap x ST "value" "[B" v0) (C : RoadKit.Fld Z U.heap x ST "coder" "B" c0) :
    ∃ (D : Cell) (fV fC : Field), Blank ST x D U ∧ Found ST "value" "[B" fV U ∧ Found ST "coder" "B" fC U ∧ D.slots[fV.slot]? = some v0 ∧ D.slots[fC.slot]? = some c0 ∧ RoadKit.slotOf Z ST "value" "[B" = fV.slot ∧ RoadKit.slotOf Z ST "coder" "B" = fC.slot := by
  obtain ⟨D, cfV, kV, iV, fV, hD, gV, stV, knV, obV, asV, slV⟩ := V
  obtain ⟨D', cfC, kC, iC, fC, hD', gC, stC, -, -, asC, slC⟩ := C
  cases hD.symm.trans hD'
  obtain ⟨D2, kD, e1, e2, e3, e4, e5⟩ := E
  cases hD.symm.trans e1
  obtain ⟨c2, k2, i1, i2, i3, -⟩ := Cond.instantiable_spec wi
  cases e2.symm.trans i1
  cases e3.symm.trans i2
  obtain ⟨kU, u1, u2⟩ := al.2.2 _ _ e3
  exact ⟨D, fV, fC, ⟨hD, ⟨knV, fun q hq => by rw [hq] at obV; cases obV⟩, by rw [al.findClass]; exact e2, kU, u1, by rw [u2]; exact i3, by rw [u2]; exact e5 i3⟩, ⟨SBG.found_only al ⟨cfV, kV, iV, gV⟩, stV⟩, ⟨SBG.found_only al ⟨cfC, kC, iC, gC⟩, stC⟩, slV, slC, by simp [RoadKit.slotOf, gV], by simp [RoadKit.slotOf, gC]⟩
theorem sta_is {Z U : State} (al : Z.vm.Alike U.vm) {C n d : String} {v : Value} (S : RoadKit.Sta Z U.heap C n d v) : StaticIs U C n d v := by
  obtain ⟨cfS, iS, kS, fS, st, cS, t1, t2, t3, t4, t5, t6, t7⟩ := S
  exact StaticIs.there (s := { Z with heap := U.heap }) ⟨cfS, iS, kS, fS, st, cS, t1, t2, t3, t4, t5, (fun q => by rw [q] at t6; cases t6), t7⟩ al rfl
/-- **length() OF SUCH A STRING** -/
theorem lenW {p : Program} {l : Launch} {e : Env} {R : Room} {s : State} {args : Array Value} {below : List Frame} {len W : Nat} {Z : State} {a0 : Array Value} {h : Heap} (hZ : Z.Warmed39 s.vm) (hw : ∀ d ∈ wordsLen, d.before a0 Z = true) {kI : Nat} (wi : (Jvm.Cond.instantiable ST kI).before a0 Z = true)
    {x t : Addr} {kb : ClassId} {cs : List Int32} {cd N2 z : Int32} {vs : List Value} (E : RoadKit.Exa Z h x ST) (V : RoadKit.Fld Z h x ST "value" "[B" (.ref t)) (C : RoadKit.Fld Z h x ST "coder" "B" (.int cd)) (K : RoadKit.Arv Z h t kb .byte N2 vs (.int 0)) (hc : CodA cs cd N2 vs) (hb : ∀ c ∈ cs, ¬ c < 0 ∧ ¬ (65535 : Int32) < c)
    (S : RoadKit.Sta Z h ST "COMPACT_STRINGS" "Z" (.int z)) (hz : ¬ z = 0) (l2 : cs.length ≤ 4000) (hfr : 2 ≤ R.frames) (hlo : W + 25 ≤ R.locals) :
    Back l R p e below s args (⟨"java/lang/String", "length", "()I"⟩ : MethodName) len W (fun P a => a = #[.ref x] ∧ P.U.heap = h ∧ P.cells + 0 ≤ R.cells ∧ P.slots + 0 ≤ R.slots)
      (fun P _ v B => ∃ L, (v = some (.int (Int32.ofNat cs.length)) ∧ L = [] ∧ B.U.heap = h) ∧ B.locs = P.locs ++ L ∧ B.cells = P.cells + 0 ∧ B.slots = P.slots + 0) := by
  obtain ⟨A, K1, K2, K3, K4, K5, K6⟩ := K
  have hcod := hc.cod (by omega) K3 K5
  intro m meth c P g ig mk a X hg hsize hdg hW hn hp'
  obtain ⟨rfl, rfl, r1, r2⟩ := hp'
  have al : Z.vm.Alike P.U.vm := hZ.alike.trans X.warmed.alike
  obtain ⟨D, fV, fC, hB, F1, F2, g1, g2, -, -⟩ := strObj wi al E V C
  have hx : Txt x t A cd cs.length (fun j => cs.getD j 0) P.U := ⟨⟨_, hB.2.2.1, D, hB.1, rfl, by cases q : D.vm <;> first | rfl | exact absurd q (hB.2.1.2 _)⟩, Has.of hB F1 g1, Has.of hB F2 g2, ⟨K1.1, State.isArrayOf_alike al K1.2.1, K1.2.2, by rcases hcod with ⟨-, q, -⟩ | ⟨-, q, -⟩ <;> omega⟩, hcod, fun j hj => by
    have e : cs.getD j 0 = cs[j] := by simp [List.getD_eq_getElem?_getD, hj]
    show ¬ cs.getD j 0 < 0 ∧ ¬ 65535 < cs.getD j 0
    rw [e]; exact hb _ (List.getElem_mem _)⟩
  obtain ⟨v, B, X', ⟨⟨hv, hh⟩, hl, hk, hs⟩, st⟩ := Len.pays x t A cd cs.length (fun j => cs.getD j 0) z (tabLen_of (movedLen hZ hw)) hfr hlo m meth c P g ig mk _ X hg hsize hdg hW hn ⟨r1, r2, rfl, hx, sta_is al S, hz⟩
  exact ⟨v, B, X', ⟨[], ⟨hv, rfl, hh⟩, hl, hk, hs⟩, st⟩
end StrChars.Road
namespace StrChars.Road
open Jvm Sem ClassFile Op Lib Jvm.Stand Jvm.Free Jvm.Free.XT
open Jvm.Lib.Cold (StaticIs)
/-- what backV says of its String, as the contracts of this text ask it: cs's low bytes, coder 0 -/
theorem codOf {cs : List Int32} {n : Nat} (hn : cs.length = n) (hb : ∀ c ∈ cs, ¬ 255 < c) : CodA cs 0 (Int32.ofNat n) ((cs.map lo8).map Value.int) := Or.inl ⟨rfl, by rw [hn], by simp [List.map_map, Function.comp_def], hb⟩
end StrChars.Road
end Jvm.Pilot.@@N@@
namespace Jvm.Pilot.@@N@@
open Jvm Jvm.ClassFile Sem Op Lib Jvm.Free Jvm.Stand Jvm.LawKit Jvm.RoadKit Bundle Jvm.Own Jvm.Pilot.@@N@@.Jvm.D
theorem own_pd0 : parseMethodDescriptor "()B" = some ⟨[], some .byte⟩ := by decide +kernel
theorem own_pd1 : parseMethodDescriptor "(Ljava/lang/String;)V" = some ⟨[(.object "java/lang/String")], none⟩ := by decide +kernel
theorem own_pd2 : parseMethodDescriptor "([BIB)V" = some ⟨[(.array .byte), .int, .byte], none⟩ := by decide +kernel
theorem own_pd3 : parseMethodDescriptor "(II)I" = some ⟨[.int, .int], some .int⟩ := by decide +kernel
theorem own_pd4 : parseMethodDescriptor "(III)I" = some ⟨[.int, .int, .int], some .int⟩ := by decide +kernel
theorem own_pd5 : parseMethodDescriptor "(I)I" = some ⟨[.int], some .int⟩ := by decide +kernel
theorem own_pd6 : parseMethodDescriptor "([BI)[B" = some ⟨[(.array .byte), .int], some (.array .byte)⟩ := by decide +kernel
theorem own_pd7 : parseMethodDescriptor "()I" = some ⟨[], some .int⟩ := by decide +kernel
theorem own_pd8 : parseMethodDescriptor "(I)V" = some ⟨[.int], none⟩ := by decide +kernel
theorem own_pd9 : parseMethodDescriptor "(ILjava/lang/String;)V" = some ⟨[.int, (.object "java/lang/String")], none⟩ := by decide +kernel
theorem own_pd10 : parseMethodDescriptor "(Ljava/lang/String;)Ljava/lang/AbstractStringBuilder;" = some ⟨[(.object "java/lang/String")], some (.object "java/lang/AbstractStringBuilder")⟩ := by decide +kernel
theorem own_pd11 : parseMethodDescriptor "(II)V" = some ⟨[.int, .int], none⟩ := by decide +kernel
theorem own_pd12 : parseMethodDescriptor "([BII)[B" = some ⟨[(.array .byte), .int, .int], some (.array .byte)⟩ := by decide +kernel
theorem own_pd13 : parseMethodDescriptor "()[B" = some ⟨[], some (.array .byte)⟩ := by decide +kernel
theorem own_pd14 : parseMethodDescriptor "()Z" = some ⟨[], some .boolean⟩ := by decide +kernel
theorem own_pd15 : parseMethodDescriptor "(Ljava/lang/AbstractStringBuilder;Ljava/lang/Void;)V" = some ⟨[(.object "java/lang/AbstractStringBuilder"), (.object "java/lang/Void")], none⟩ := by decide +kernel
theorem own_pd16 : parseMethodDescriptor "(Ljava/lang/StringBuilder;)V" = some ⟨[(.object "java/lang/StringBuilder")], none⟩ := by decide +kernel
theorem own_pd17 : parseMethodDescriptor "(II[B)I" = some ⟨[.int, .int, (.array .byte)], some .int⟩ := by decide +kernel
theorem own_pd18 : parseMethodDescriptor "(I)Ljava/lang/AbstractStringBuilder;" = some ⟨[.int], some (.object "java/lang/AbstractStringBuilder")⟩ := by decide +kernel
theorem own_pd19 : parseMethodDescriptor "()V" = some ⟨[], none⟩ := by decide +kernel
theorem own_pd20 : parseMethodDescriptor "(Ljava/lang/String;)Ljava/lang/StringBuilder;" = some ⟨[(.object "java/lang/String")], some (.object "java/lang/StringBuilder")⟩ := by decide +kernel
theorem own_pd21 : parseMethodDescriptor "(I)Ljava/lang/StringBuilder;" = some ⟨[.int], some (.object "java/lang/StringBuilder")⟩ := by decide +kernel
theorem own_pd22 : parseMethodDescriptor "()Ljava/lang/String;" = some ⟨[], some (.object "java/lang/String")⟩ := by decide +kernel
theorem own_pd23 : parseMethodDescriptor "()Ljava/util/OptionalInt;" = some ⟨[], some (.object "java/util/OptionalInt")⟩ := by decide +kernel
theorem own_pd24 : parseMethodDescriptor "(I)Ljava/util/OptionalInt;" = some ⟨[.int], some (.object "java/util/OptionalInt")⟩ := by decide +kernel
theorem own_pd25 : parseMethodDescriptor "(Ljava/lang/String;Ljava/lang/Throwable;)V" = some ⟨[(.object "java/lang/String"), (.object "java/lang/Throwable")], none⟩ := by decide +kernel
theorem own_pd26 : parseMethodDescriptor "(Ljava/lang/Object;)Ljava/lang/Object;" = some ⟨[(.object "java/lang/Object")], some (.object "java/lang/Object")⟩ := by decide +kernel
theorem own_pd27 : parseMethodDescriptor "(Ljava/lang/Object;)V" = some ⟨[(.object "java/lang/Object")], none⟩ := by decide +kernel
theorem own_pd28 : parseMethodDescriptor "(Lcom/example/vestwright/vestwright/run/RunRefusedException$Kind;Ljava/lang/String;Ljava/lang/Exception;)V" = some ⟨[(.object "com/example/vestwright/vestwright/run/RunRefusedException$Kind"), (.object "java/lang/String"), (.object "java/lang/Exception")], none⟩ := by decide +kernel
theorem own_pd29 : parseMethodDescriptor "()Ljava/lang/Throwable;" = some ⟨[], some (.object "java/lang/Throwable")⟩ := by decide +kernel
theorem own_pd30 : parseMethodDescriptor "()Lcom/example/vestwright/vestwright/input/InputException;" = some ⟨[], some (.object "com/example/vestwright/vestwright/input/InputException")⟩ := by decide +kernel
theorem own_pd31 : parseMethodDescriptor "(Ljava/lang/Object;)Ljava/util/Optional;" = some ⟨[(.object "java/lang/Object")], some (.object "java/util/Optional")⟩ := by decide +kernel
theorem own_pd32 : parseMethodDescriptor "([C)V" = some ⟨[(.array .char)], none⟩ := by decide +kernel
theorem own_pd33 : parseMethodDescriptor "(Ljava/lang/String;Ljava/lang/String;)V" = some ⟨[(.object "java/lang/String"), (.object "java/lang/String")], none⟩ := by decide +kernel
theorem own_pd34 : parseMethodDescriptor "(Lcom/example/vestwright/vestwright/input/InputException;)Lcom/example/vestwright/vestwright/run/RunRefusedException;" = some ⟨[(.object "com/example/vestwright/vestwright/input/InputException")], some (.object "com/example/vestwright/vestwright/run/RunRefusedException")⟩ := by decide +kernel
theorem own_pd35 : parseMethodDescriptor "()Lcom/example/vestwright/vestwright/run/RunRefusedException$Kind;" = some ⟨[], some (.object "com/example/vestwright/vestwright/run/RunRefusedException$Kind")⟩ := by decide +kernel
theorem own_pd36 : parseMethodDescriptor "(Ljava/lang/Object;)Z" = some ⟨[(.object "java/lang/Object")], some .boolean⟩ := by decide +kernel
theorem own_pd37 : parseMethodDescriptor "()Ljava/util/Optional;" = some ⟨[], some (.object "java/util/Optional")⟩ := by decide +kernel
theorem own_pd38 : parseMethodDescriptor "()Ljava/lang/Object;" = some ⟨[], some (.object "java/lang/Object")⟩ := by decide +kernel
theorem own_pd39 : parseMethodDescriptor "(Ljava/lang/String;ILjava/lang/String;)V" = some ⟨[(.object "java/lang/String"), .int, (.object "java/lang/String")], none⟩ := by decide +kernel
theorem own_pn0 : plainFor (⟨"java/lang/Math", "max", "(II)I"⟩ : MethodName) = true := by first | exact plainFor_of_name (by first | (simp [plainName, overriddenIn, x]; done) | decide +kernel) | decide +kernel
theorem own_pn1 : plainFor (⟨"java/lang/Math", "min", "(II)I"⟩ : MethodName) = true := by first | exact plainFor_of_name (by first | (simp [plainName, overriddenIn, x]; done) | decide +kernel) | decide +kernel
theorem own_pn2 : plainFor (⟨"java/lang/String", "coder", "()B"⟩ : MethodName) = true := by first | exact plainFor_of_name (by first | (simp [plainName, overriddenIn, x]; done) | decide +kernel) | decide +kernel
theorem own_pn3 : plainFor (⟨"java/lang/AbstractStringBuilder", "inflateIfNeededFor", "(Ljava/lang/String;)V"⟩ : MethodName) = true := by first | exact plainFor_of_name (by first | (simp [plainName, overriddenIn, x]; done) | decide +kernel) | decide +kernel
theorem own_pn4 : plainFor (⟨"java/lang/String", "getBytes", "([BIB)V"⟩ : MethodName) = true := by first | exact plainFor_of_name (by first | (simp [plainName, overriddenIn, x]; done) | decide +kernel) | decide +kernel
theorem own_pn5 : plainFor (⟨"java/lang/AbstractStringBuilder", "putStringAt", "(ILjava/lang/String;)V"⟩ : MethodName) = true := by first | exact plainFor_of_name (by first | (simp [plainName, overriddenIn, x]; done) | decide +kernel) | decide +kernel
theorem own_pn6 : plainFor (⟨"jdk/internal/util/ArraysSupport", "newLength", "(III)I"⟩ : MethodName) = true := by first | exact plainFor_of_name (by first | (simp [plainName, overriddenIn, x]; done) | decide +kernel) | decide +kernel
theorem own_pn7 : plainFor (⟨"java/lang/AbstractStringBuilder", "newCapacity", "(I)I"⟩ : MethodName) = true := by first | exact plainFor_of_name (by first | (simp [plainName, overriddenIn, x]; done) | decide +kernel) | decide +kernel
theorem own_pn8 : plainFor (⟨"java/util/Arrays", "copyOf", "([BI)[B"⟩ : MethodName) = true := by first | exact plainFor_of_name (by first | (simp [plainName, overriddenIn, x]; done) | decide +kernel) | decide +kernel
theorem own_pn9 : plainFor (⟨"java/lang/AbstractStringBuilder", "ensureCapacityInternal", "(I)V"⟩ : MethodName) = true := by first | exact plainFor_of_name (by first | (simp [plainName, overriddenIn, x]; done) | decide +kernel) | decide +kernel
theorem own_pn10 : plainFor (⟨"java/lang/AbstractStringBuilder", "append", "(Ljava/lang/String;)Ljava/lang/AbstractStringBuilder;"⟩ : MethodName) = true := by first | exact plainFor_of_name (by first | (simp [plainName, overriddenIn, x]; done) | decide +kernel) | decide +kernel
theorem own_pn11 : plainFor (⟨"java/lang/StringBuilder", "append", "(Ljava/lang/String;)Ljava/lang/StringBuilder;"⟩ : MethodName) = true := by first | exact plainFor_of_name (by first | (simp [plainName, overriddenIn, x]; done) | decide +kernel) | decide +kernel
theorem own_pn12 : plainFor (⟨"java/lang/AbstractStringBuilder", "<init>", "(I)V"⟩ : MethodName) = true := by first | exact plainFor_of_name (by first | (simp [plainName, overriddenIn, x]; done) | decide +kernel) | decide +kernel
theorem own_pn13 : plainFor (⟨"java/lang/StringBuilder", "<init>", "()V"⟩ : MethodName) = true := by first | exact plainFor_of_name (by first | (simp [plainName, overriddenIn, x]; done) | decide +kernel) | decide +kernel
theorem own_pn14 : plainFor (⟨"java/util/Arrays", "checkLength", "(II)V"⟩ : MethodName) = true := by first | exact plainFor_of_name (by first | (simp [plainName, overriddenIn, x]; done) | decide +kernel) | decide +kernel
theorem own_pn15 : plainFor (⟨"java/util/Arrays", "copyOfRangeByte", "([BII)[B"⟩ : MethodName) = true := by first | exact plainFor_of_name (by first | (simp [plainName, overriddenIn, x]; done) | decide +kernel) | decide +kernel
theorem own_pn16 : plainFor (⟨"java/util/Arrays", "copyOfRange", "([BII)[B"⟩ : MethodName) = true := by first | exact plainFor_of_name (by first | (simp [plainName, overriddenIn, x]; done) | decide +kernel) | decide +kernel
theorem own_pn17 : plainFor (⟨"java/lang/AbstractStringBuilder", "getValue", "()[B"⟩ : MethodName) = true := by first | exact plainFor_of_name (by first | (simp [plainName, overriddenIn, x]; done) | decide +kernel) | decide +kernel
theorem own_pn18 : plainFor (⟨"java/lang/AbstractStringBuilder", "length", "()I"⟩ : MethodName) = true := by first | exact plainFor_of_name (by first | (simp [plainName, overriddenIn, x]; done) | decide +kernel) | decide +kernel
theorem own_pn19 : plainFor (⟨"java/lang/StringBuilder", "length", "()I"⟩ : MethodName) = true := by first | exact plainFor_of_name (by first | (simp [plainName, overriddenIn, x]; done) | decide +kernel) | decide +kernel
theorem own_pn20 : plainFor (⟨"java/lang/AbstractStringBuilder", "isLatin1", "()Z"⟩ : MethodName) = true := by first | exact plainFor_of_name (by first | (simp [plainName, overriddenIn, x]; done) | decide +kernel) | decide +kernel
theorem own_pn21 : plainFor (⟨"java/lang/String", "<init>", "(Ljava/lang/AbstractStringBuilder;Ljava/lang/Void;)V"⟩ : MethodName) = true := by first | exact plainFor_of_name (by first | (simp [plainName, overriddenIn, x]; done) | decide +kernel) | decide +kernel
theorem own_pn22 : plainFor (⟨"java/lang/String", "<init>", "(Ljava/lang/StringBuilder;)V"⟩ : MethodName) = true := by first | exact plainFor_of_name (by first | (simp [plainName, overriddenIn, x]; done) | decide +kernel) | decide +kernel
theorem own_pn23 : plainFor (⟨"java/lang/StringBuilder", "toString", "()Ljava/lang/String;"⟩ : MethodName) = true := by first | exact plainFor_of_name (by first | (simp [plainName, overriddenIn, x]; done) | decide +kernel) | decide +kernel
theorem own_pn24 : plainFor (⟨"java/lang/Integer", "stringSize", "(I)I"⟩ : MethodName) = true := by first | exact plainFor_of_name (by first | (simp [plainName, overriddenIn, x]; done) | decide +kernel) | decide +kernel
theorem own_pn25 : plainFor (⟨"java/lang/Integer", "getChars", "(II[B)I"⟩ : MethodName) = true := by first | exact plainFor_of_name (by first | (simp [plainName, overriddenIn, x]; done) | decide +kernel) | decide +kernel
theorem own_pn26 : plainFor (⟨"java/lang/AbstractStringBuilder", "append", "(I)Ljava/lang/AbstractStringBuilder;"⟩ : MethodName) = true := by first | exact plainFor_of_name (by first | (simp [plainName, overriddenIn, x]; done) | decide +kernel) | decide +kernel
theorem own_pn27 : plainFor (⟨"java/lang/StringBuilder", "append", "(I)Ljava/lang/StringBuilder;"⟩ : MethodName) = true := by first | exact plainFor_of_name (by first | (simp [plainName, overriddenIn, x]; done) | decide +kernel) | decide +kernel
theorem own_pn28 : plainFor (⟨"java/lang/Throwable", "<init>", "(Ljava/lang/String;)V"⟩ : MethodName) = true := by first | exact plainFor_of_name (by first | (simp [plainName, overriddenIn, x]; done) | decide +kernel) | decide +kernel
theorem own_pn29 : plainFor (⟨"java/lang/Exception", "<init>", "(Ljava/lang/String;)V"⟩ : MethodName) = true := by first | exact plainFor_of_name (by first | (simp [plainName, overriddenIn, x]; done) | decide +kernel) | decide +kernel
theorem own_pn30 : plainFor (⟨"com/example/vestwright/vestwright/input/InputException", "<init>", "(Ljava/lang/String;ILjava/lang/String;)V"⟩ : MethodName) = true := by first | exact plainFor_of_name (by first | (simp [plainName, overriddenIn, x]; done) | decide +kernel) | decide +kernel
theorem own_pn31 : plainFor (⟨"com/example/vestwright/vestwright/input/InputException", "<init>", "(Ljava/lang/String;Ljava/lang/String;)V"⟩ : MethodName) = true := by first | exact plainFor_of_name (by first | (simp [plainName, overriddenIn, x]; done) | decide +kernel) | decide +kernel
theorem own_pn32 : plainFor (⟨"java/util/OptionalInt", "<init>", "(I)V"⟩ : MethodName) = true := by first | exact plainFor_of_name (by first | (simp [plainName, overriddenIn, x]; done) | decide +kernel) | decide +kernel
theorem own_pn33 : plainFor (⟨"java/util/OptionalInt", "of", "(I)Ljava/util/OptionalInt;"⟩ : MethodName) = true := by first | exact plainFor_of_name (by first | (simp [plainName, overriddenIn, x]; done) | decide +kernel) | decide +kernel
theorem own_pn34 : plainFor (⟨"java/util/OptionalInt", "empty", "()Ljava/util/OptionalInt;"⟩ : MethodName) = true := by first | exact plainFor_of_name (by first | (simp [plainName, overriddenIn, x]; done) | decide +kernel) | decide +kernel
theorem own_pn35 : plainFor (⟨"java/util/OptionalInt", "isPresent", "()Z"⟩ : MethodName) = true := by first | exact plainFor_of_name (by first | (simp [plainName, overriddenIn, x]; done) | decide +kernel) | decide +kernel
theorem own_pn36 : plainFor (⟨"java/util/OptionalInt", "getAsInt", "()I"⟩ : MethodName) = true := by first | exact plainFor_of_name (by first | (simp [plainName, overriddenIn, x]; done) | decide +kernel) | decide +kernel
theorem own_pn37 : plainFor (⟨"com/example/vestwright/vestwright/input/InputException", "line", "()Ljava/util/OptionalInt;"⟩ : MethodName) = true := by first | exact plainFor_of_name (by first | (simp [plainName, overriddenIn, x]; done) | decide +kernel) | decide +kernel
theorem own_pn38 : plainFor (⟨"java/lang/Throwable", "<init>", "(Ljava/lang/String;Ljava/lang/Throwable;)V"⟩ : MethodName) = true := by first | exact plainFor_of_name (by first | (simp [plainName, overriddenIn, x]; done) | decide +kernel) | decide +kernel
theorem own_pn39 : plainFor (⟨"java/lang/Exception", "<init>", "(Ljava/lang/String;Ljava/lang/Throwable;)V"⟩ : MethodName) = true := by first | exact plainFor_of_name (by first | (simp [plainName, overriddenIn, x]; done) | decide +kernel) | decide +kernel
theorem own_pn40 : plainFor (⟨"java/lang/Throwable", "getMessage", "()Ljava/lang/String;"⟩ : MethodName) = true := by first | exact plainFor_of_name (by first | (simp [plainName, overriddenIn, x]; done) | decide +kernel) | decide +kernel
theorem own_pn41 : plainFor (⟨"com/example/vestwright/vestwright/run/RunRefusedException", "kind", "()Lcom/example/vestwright/vestwright/run/RunRefusedException$Kind;"⟩ : MethodName) = true := by first | exact plainFor_of_name (by first | (simp [plainName, overriddenIn, x]; done) | decide +kernel) | decide +kernel
theorem own_pn42 : plainFor (⟨"com/example/vestwright/vestwright/input/InputException", "file", "()Ljava/lang/String;"⟩ : MethodName) = true := by first | exact plainFor_of_name (by first | (simp [plainName, overriddenIn, x]; done) | decide +kernel) | decide +kernel
theorem own_pn43 : plainFor (⟨"com/example/vestwright/vestwright/input/InputException", "reason", "()Ljava/lang/String;"⟩ : MethodName) = true := by first | exact plainFor_of_name (by first | (simp [plainName, overriddenIn, x]; done) | decide +kernel) | decide +kernel
theorem own_pn44 : plainFor (⟨"java/util/Objects", "requireNonNull", "(Ljava/lang/Object;)Ljava/lang/Object;"⟩ : MethodName) = true := by first | exact plainFor_of_name (by first | (simp [plainName, overriddenIn, x]; done) | decide +kernel) | decide +kernel
theorem own_pn45 : plainFor (⟨"java/util/Optional", "<init>", "(Ljava/lang/Object;)V"⟩ : MethodName) = true := by first | exact plainFor_of_name (by first | (simp [plainName, overriddenIn, x]; done) | decide +kernel) | decide +kernel
theorem own_pn46 : plainFor (⟨"java/util/Optional", "of", "(Ljava/lang/Object;)Ljava/util/Optional;"⟩ : MethodName) = true := by first | exact plainFor_of_name (by first | (simp [plainName, overriddenIn, x]; done) | decide +kernel) | decide +kernel
theorem own_pn47 : plainFor (⟨"java/util/Optional", "isPresent", "()Z"⟩ : MethodName) = true := by first | exact plainFor_of_name (by first | (simp [plainName, overriddenIn, x]; done) | decide +kernel) | decide +kernel
theorem own_pn48 : plainFor (⟨"java/util/Optional", "get", "()Ljava/lang/Object;"⟩ : MethodName) = true := by first | exact plainFor_of_name (by first | (simp [plainName, overriddenIn, x]; done) | decide +kernel) | decide +kernel
theorem own_pn49 : plainFor (⟨"java/lang/String", "equals", "(Ljava/lang/Object;)Z"⟩ : MethodName) = true := by first | exact plainFor_of_name (by first | (simp [plainName, overriddenIn, x]; done) | decide +kernel) | decide +kernel
theorem own_pn50 : plainFor (⟨"com/example/vestwright/vestwright/run/RunRefusedException", "<init>", "(Lcom/example/vestwright/vestwright/run/RunRefusedException$Kind;Ljava/lang/String;Ljava/lang/Exception;)V"⟩ : MethodName) = true := by first | exact plainFor_of_name (by first | (simp [plainName, overriddenIn, x]; done) | decide +kernel) | decide +kernel
theorem own_pn51 : plainFor (⟨"com/example/vestwright/vestwright/run/RunRefusedException", "of", "(Lcom/example/vestwright/vestwright/input/InputException;)Lcom/example/vestwright/vestwright/run/RunRefusedException;"⟩ : MethodName) = true := by first | exact plainFor_of_name (by first | (simp [plainName, overriddenIn, x]; done) | decide +kernel) | decide +kernel
theorem own_pn52 : plainFor (⟨"com/example/vestwright/vestwright/run/RunRefusedException", "input", "()Lcom/example/vestwright/vestwright/input/InputException;"⟩ : MethodName) = true := by first | exact plainFor_of_name (by first | (simp [plainName, overriddenIn, x]; done) | decide +kernel) | decide +kernel
theorem own_pn53 : plainFor (⟨"com/example/vestwright/vestwright/run/RunRefusedException", "file", "()Ljava/util/Optional;"⟩ : MethodName) = true := by first | exact plainFor_of_name (by first | (simp [plainName, overriddenIn, x]; done) | decide +kernel) | decide +kernel
theorem own_pn54 : plainFor (⟨"com/example/vestwright/vestwright/run/RunRefusedException", "reason", "()Ljava/lang/String;"⟩ : MethodName) = true := by first | exact plainFor_of_name (by first | (simp [plainName, overriddenIn, x]; done) | decide +kernel) | decide +kernel
theorem own_pn55 : plainFor (⟨"com/example/vestwright/vestwright/run/RunRefusedException", "line", "()Ljava/util/OptionalInt;"⟩ : MethodName) = true := by first | exact plainFor_of_name (by first | (simp [plainName, overriddenIn, x]; done) | decide +kernel) | decide +kernel
theorem own_pn56 : plainFor x = true := by first | exact plainFor_of_name (by first | (simp [plainName, overriddenIn, x]; done) | decide +kernel) | decide +kernel
theorem al0 {α : Type} {P : α → Prop} : ∀ c ∈ ([] : List α), P c := fun _ q => nomatch q
theorem alS {α : Type} {P : α → Prop} {a : α} {L : List α} (q : P a) (r : ∀ c ∈ L, P c) : ∀ c ∈ a :: L, P c := fun c z => (List.mem_cons.mp z).elim (fun u => u ▸ q) (r c)
theorem ifc {P Q : Prop} [Decidable P] [Decidable Q] {a b : Int32} (h : P ↔ Q) : (if P then a else b) = (if Q then a else b) := by
  by_cases q : P
  · rw [if_pos q, if_pos (h.mp q)]
  · rw [if_neg q, if_neg (fun z => q (h.mpr z))]
theorem jn {A G : Prop} (h1 : A → G) (h2 : A) : G := h1 h2
/-- C (whose superclass is O, which has none) is no K -/
theorem notSub {Z : State} {a0 : Array Value} {C O K : String} {n : Nat} (w1 : (Jvm.Cond.superclass C O).before a0 Z = true) (w2 : (Jvm.Cond.noSuperclass O).before a0 Z = true) (w3 : (Jvm.Cond.instantiable K n).before a0 Z = true) (h1 : C ≠ K) (h2 : O ≠ K) : ∃ c t, Z.vm.findClass C = some c ∧ Z.vm.findClass K = some t ∧ Z.vm.assignable c t = false := by
  obtain ⟨c, hc⟩ := found_sup w1
  obtain ⟨q, k, kq, a1, a2, a3, a4, a5, a6, a7⟩ := Cond.superclass_spec hc w1
  obtain ⟨q', kq', b1, b2, b3, b4, b5⟩ := Cond.noSuperclass_spec w2
  cases a1.symm.trans b1
  cases a3.symm.trans b2
  obtain ⟨t, kt, d1, d2, d3, d4, -⟩ := Cond.instantiable_spec w3
  have n1 : c ≠ t := ids_ne hc d1 h1
  have n2 : q ≠ t := ids_ne b1 d1 h2
  have d5 : kt.isInterface = false := by
    cases hk : kt.isInterface with
    | false => rfl
    | true => rw [hk] at d4; simp at d4
  have s1 : ∀ fuel, Z.vm.isSubclassAux fuel q t = false := fun fuel => by
    cases fuel with
    | zero => rfl
    | succ f => simp [Vm.isSubclassAux, n2, b2, b3]
  have s2 : ∀ fuel, Z.vm.isSubclassAux fuel c t = false := fun fuel => by
    cases fuel with
    | zero => rfl
    | succ f => simp [Vm.isSubclassAux, n1, a2, a4, s1]
  refine ⟨c, t, hc, d1, ?_⟩
  show Z.vm.assignableAux (255 + 1) c t = false
  simp [Vm.assignableAux, n1, a2, d2, a5, d3, d5, Vm.isSubclass, s2]
theorem insNo {Z : State} {h : Heap} {a : Addr} {C K : String} (E : Exa Z h a C) (q : ∃ c t, Z.vm.findClass C = some c ∧ Z.vm.findClass K = some t ∧ Z.vm.assignable c t = false) : Ins Z h a K false := by
  obtain ⟨c, t, q1, q2, q3⟩ := q
  obtain ⟨cell, k, e1, e2, -⟩ := E
  cases q1.symm.trans e2
  exact ⟨cell, t, e1, q2, by simp [q3]⟩
section StrKit
variable {p : Program} {l : Launch} {e : Env} {R : Room} {s : State} {args : Array Value} {below : List Frame} {Z : State} {a0 : Array Value} {EL : List (String × Nat)} {kn : Prop} {ws : List Addr} {h h' : Heap} {a b x y : Addr} {cs ds : List Int32} {G1 : Int32} {W : Nat}
/-- a String and its chars -/
def Str (Z : State) (h : Heap) (a : Addr) (cs : List Int32) : Prop := ∃ (t : Addr) (kb : ClassId) (cd N : Int32) (vs : List Value), Exa Z h a "java/lang/String" ∧ Fld Z h a "java/lang/String" "value" "[B" (.ref t) ∧ Fld Z h a "java/lang/String" "coder" "B" (.int cd) ∧ Arv Z h t kb .byte N vs (.int 0) ∧ StrChars.Road.CodA cs cd N vs ∧ (∀ c ∈ cs, ¬ c < 0 ∧ ¬ (65535 : Int32) < c) ∧ cs.length ≤ 4000
theorem Str.ext (S : Str Z h a cs) (E : Ext h h') : Str Z h' a cs := by
  obtain ⟨t, kb, cd, N, vs, s1, s2, s3, s4, r⟩ := S
  exact ⟨t, kb, cd, N, vs, s1.ext E, s2.ext E, s3.ext E, s4.ext E, r⟩
theorem Str.exa (S : Str Z h a cs) : Exa Z h a "java/lang/String" := by obtain ⟨t, kb, cd, N, vs, s1, -⟩ := S; exact s1
theorem Str.lt (S : Str Z h a cs) : a < h.size := S.exa.lt
theorem Str.wr {C : String} {kI sl : Nat} {v : Value} (S : Str Z h a cs) (W : Wr h h' b sl v) (E : Exa Z h b C) (hC : C ≠ "java/lang/String") (wi : (Jvm.Cond.instantiable C kI).before a0 Z = true) : Str Z h' a cs := by
  obtain ⟨t, kb, cd, N, vs, s1, s2, s3, s4, r⟩ := S
  have n1 : a ≠ b := Exa.ne s1 E (Ne.symm hC)
  have n2 : t ≠ b := (Exa.neArv E s4 wi).symm
  exact ⟨t, kb, cd, N, vs, s1.wr W, s2.other W (Or.inl n1), s3.other W (Or.inl n1), s4.other W n2, r⟩
theorem arv_ty {t : Addr} {kb : ClassId} {N : Int32} {vs us : List Value} {dv : Value} {ty ty' : FieldType} (F : Arv Z h t kb ty' N vs dv) (A : Own.Ary Z h b ty us) (hty : ty' ≠ ty) : t ≠ b := fun q => by
  subst q
  obtain ⟨c1, ⟨e1, ⟨-, k1, f1, m1, g1⟩, -⟩, -⟩ := F
  obtain ⟨c2, ⟨e2, ⟨-, k2, f2, m2, g2⟩, -⟩, -⟩ := A
  cases e1.symm.trans e2
  cases f1.symm.trans f2
  have := g1.symm.trans g2
  injection this with _ r
  exact hty r
theorem Str.wrA {sl kI : Nat} {v : Value} {us : List Value} {ty : FieldType} (S : Str Z h a cs) (W : Wr h h' b sl v) (A : Own.Ary Z h b ty us) (hty : FieldType.byte ≠ ty) (wi : (Jvm.Cond.instantiable "java/lang/String" kI).before a0 Z = true) : Str Z h' a cs := by
  obtain ⟨t, kb, cd, N, vs, s1, s2, s3, s4, r⟩ := S
  obtain ⟨kc, A'⟩ := A.arv .null
  have n1 : a ≠ b := Exa.neArv s1 A' wi
  have n2 : t ≠ b := arv_ty s4 A hty
  exact ⟨t, kb, cd, N, vs, s1.wr W, s2.other W (Or.inl n1), s3.other W (Or.inl n1), s4.other W n2, r⟩
theorem Str.keep {C : String} {kI : Nat} (S : Str Z h a cs) (K : Keep h h' [b]) (E : Exa Z h b C) (hC : C ≠ "java/lang/String") (wi : (Jvm.Cond.instantiable C kI).before a0 Z = true) : Str Z h' a cs := by
  obtain ⟨t, kb, cd, N, vs, s1, s2, s3, s4, r⟩ := S
  have n1 : a ≠ b := Exa.ne s1 E (Ne.symm hC)
  have n2 : t ≠ b := (Exa.neArv E s4 wi).symm
  exact ⟨t, kb, cd, N, vs, s1.keep K, s2.keep K (ninS n1 nin0), s3.keep K (ninS n1 nin0), s4.keep K (ninS n2 nin0), r⟩
theorem newStrPay (hw : ∀ d ∈ tables_1, d.before a0 Z = true) (hEL : EW Z a0 EL) (O2 : Sta Z Z.heap "java/lang/String" "COMPACT_STRINGS" "Z" (.int G1)) (P5 : ¬ G1 = 0) (hE : Ext Z.heap h) {v0 c0 : Value} (hx0 : Z.heap.size ≤ x) (hx : x ∈ ws) (E : Exa Z h x "java/lang/String") (V : Fld Z h x "java/lang/String" "value" "[B" v0) (C : Fld Z h x "java/lang/String" "coder" "B" c0) {vs : List Value} (hvs : vs = cs.map Value.int) (A : Own.Ary Z h b .char vs)
    {n : Nat} (hn : cs.length = n) (h0 : 0 < n) (h4 : n ≤ 4000) (hp : ∀ c ∈ cs, ¬ c < 0 ∧ ¬ (255 : Int32) < c) (hfr : 4 ≤ R.frames) (hlo : W + 65 ≤ R.locals) :
    Own.Pay l R p e below s args Z EL kn ws ⟨"java/lang/String", "<init>", "([C)V"⟩ 3 W 1 n #[.ref x, .ref b] h (fun v h' ws' => v = none ∧ Keep h h' [x] ∧ Str Z h' x cs ∧ ws' = []) := by
  subst hvs
  obtain ⟨kc, K⟩ := A.arv (.int 0)
  rw [List.length_map] at K
  have hws : ∀ d ∈ StrChars.Road.words, d.before a0 Z = true := fun d hd => hw d ((by decide +kernel : ∀ d ∈ StrChars.Road.words, d ∈ tables_1) d hd)
  refine Own.Pay.of_back (Q0 := fun v h' L => StrChars.Road.QV Z x (Int32.ofNat n) (cs.map fun c => c.toInt8.toInt32) h Z.heap.size v h' L) hEL (fun vm0 hZ => StrChars.Road.backV (s := s.setVm vm0) hZ hws (kI := 4) (hw _ (List.mem_of_getElem? (i := 1) rfl)) (cs := cs) (n := n) hx0 hE.1 E V C (hn ▸ K) (O2.ext hE) P5 hn rfl h0 h4 hp rfl hfr hlo) (fun v h' L q => ?_)
  obtain ⟨q1, q2, q3, q4, q5, t, kb, -, -, -, q6, q7⟩ := q
  refine ⟨[x], [], q3, fun y hy => ?_, q2, ⟨q1, q3, ⟨t, kb, 0, _, _, q4, q6, q5, q7, ?_, fun c hc => ⟨(hp c hc).1, fun r => (hp c hc).2 ?_⟩, by omega⟩, rfl⟩, fun y hy => by cases hy⟩
  · cases List.mem_singleton.mp hy; exact ⟨hx, hx0⟩
  · exact StrChars.Road.codOf hn (fun c hc => (hp c hc).2)
  · rw [Int32.lt_iff_toInt_lt] at r ⊢; have e1 : (65535 : Int32).toInt = 65535 := rfl; have e2 : (255 : Int32).toInt = 255 := rfl; omega
theorem lenPay (hw : ∀ d ∈ tables_1, d.before a0 Z = true) (hEL : EW Z a0 EL) (O2 : Sta Z Z.heap "java/lang/String" "COMPACT_STRINGS" "Z" (.int G1)) (P5 : ¬ G1 = 0) (hE : Ext Z.heap h) (S : Str Z h x cs) (hfr : 2 ≤ R.frames) (hlo : W + 25 ≤ R.locals) :
    Own.Pay l R p e below s args Z EL kn ws ⟨"java/lang/String", "length", "()I"⟩ 3 W 0 0 #[.ref x] h (fun v h' ws' => v = some (.int (Int32.ofNat cs.length)) ∧ h' = h ∧ ws' = []) := by
  obtain ⟨t, kb, cd, N, vs, s1, s2, s3, s4, s5, s6, s7⟩ := S
  have hws : ∀ d ∈ StrChars.Road.wordsLen, d.before a0 Z = true := fun d hd => hw d ((by decide +kernel : ∀ d ∈ StrChars.Road.wordsLen, d ∈ tables_1) d hd)
  refine Own.Pay.of_back (Q0 := fun v h' L => v = some (.int (Int32.ofNat cs.length)) ∧ L = [] ∧ h' = h) hEL (fun vm0 hZ => StrChars.Road.lenW (s := s.setVm vm0) hZ hws (kI := 4) (hw _ (List.mem_of_getElem? (i := 1) rfl)) s1 s2 s3 s4 s5 s6 (O2.ext hE) P5 s7 hfr hlo) (fun v h' L q => ?_)
  obtain ⟨q1, rfl, rfl⟩ := q
  exact ⟨[], [], Keep.refl _ _, fun y hy => (by cases hy), Fr.nil _, ⟨q1, rfl, rfl⟩, fun y hy => by cases hy⟩
end StrKit

/-- (char) ((x >>> k) & 0xff), as it lies in a char[] -/
def chA (x k : Int32) : Int32 := nar .char ((((x.toUInt32 >>> (k &&& 31).toUInt32).toInt32) &&& (255 : Int32)).toUInt32.toUInt16.toUInt32.toInt32)
theorem nar_toInt (y : Int32) (h0 : 0 ≤ y.toInt) (h1 : y.toInt < 65536) : (nar .char y.toUInt32.toUInt16.toUInt32.toInt32).toInt = y.toInt := by
  have q1 := c_i2c y
  have q2 := c_i2c y.toUInt32.toUInt16.toUInt32.toInt32
  show (y.toUInt32.toUInt16.toUInt32.toInt32.toUInt32.toUInt16.toUInt32.toInt32).toInt = _
  omega
theorem chA_toInt (x k : Int32) (n : Nat) (hk : k.toBitVec.toNat % 32 = n) (h0 : 0 < n) : (chA x k).toInt = ((x.toInt % 4294967296) / (2 ^ n : Nat)) % 256 := by
  have q1 := c_mask ((x.toUInt32 >>> (k &&& 31).toUInt32).toInt32) 255 8 (by decide) (by decide)
  have q2 := c_iushr x k n hk h0
  rw [q2] at q1
  have q3 : ((2 ^ 8 : Nat) : Int) = 256 := by decide
  rw [q3] at q1
  unfold chA
  rw [nar_toInt _ (by rw [q1]; omega) (by rw [q1]; omega), q1]
theorem chA_ok (x k : Int32) (n : Nat) (hk : k.toBitVec.toNat % 32 = n) (h0 : 0 < n) : ¬ chA x k < 0 ∧ ¬ (255 : Int32) < chA x k := by
  have q := chA_toInt x k n hk h0
  have e0 : (0 : Int32).toInt = 0 := rfl
  have e1 : (255 : Int32).toInt = 255 := rfl
  rw [Int32.lt_iff_toInt_lt, Int32.lt_iff_toInt_lt, e0, e1, q]
  omega
/-- (char) (x & 0xff), as it lies in a char[] -/
def chB (x : Int32) : Int32 := nar .char ((x &&& (255 : Int32)).toUInt32.toUInt16.toUInt32.toInt32)
theorem chB_toInt (x : Int32) : (chB x).toInt = x.toInt % 256 := by
  have q1 := c_mask x 255 8 (by decide) (by decide)
  have q3 : ((2 ^ 8 : Nat) : Int) = 256 := by decide
  rw [q3] at q1
  unfold chB
  rw [nar_toInt _ (by rw [q1]; omega) (by rw [q1]; omega), q1]
theorem chB_ok (x : Int32) : ¬ chB x < 0 ∧ ¬ (255 : Int32) < chB x := by
  have q := chB_toInt x
  have e0 : (0 : Int32).toInt = 0 := rfl
  have e1 : (255 : Int32).toInt = 255 := rfl
  rw [Int32.lt_iff_toInt_lt, Int32.lt_iff_toInt_lt, e0, e1, q]
  omega
theorem and3_cases (y : Int32) : (y &&& (3 : Int32)) = (0 : Int32) ∨ (y &&& (3 : Int32)) = (1 : Int32) ∨ (y &&& (3 : Int32)) = (2 : Int32) ∨ (y &&& (3 : Int32)) = (3 : Int32) := by
  have q := c_mask y 3 2 (by decide) (by decide)
  simp only [← Int32.toInt_inj]
  have e0 : (0 : Int32).toInt = 0 := rfl
  have e1 : (1 : Int32).toInt = 1 := rfl
  have e2 : (2 : Int32).toInt = 2 := rfl
  have e3 : (3 : Int32).toInt = 3 := rfl
  have q3 : ((2 ^ 2 : Nat) : Int) = 4 := by decide
  rw [e0, e1, e2, e3, q, q3]
  omega

theorem on_lt {a b : Nat} (ha : a < 2 ^ 31) (hb : b < 2 ^ 31) : Int32.ofNat a < Int32.ofNat b ↔ a < b := by
  have e1 : (Int32.ofNat a).toInt = a := Int32.toInt_ofNat_of_lt (by omega)
  have e2 : (Int32.ofNat b).toInt = b := Int32.toInt_ofNat_of_lt (by omega)
  rw [Int32.lt_iff_toInt_lt, e1, e2]; omega
theorem on_eq {a b : Nat} (ha : a < 2 ^ 31) (hb : b < 2 ^ 31) : Int32.ofNat a = Int32.ofNat b ↔ a = b := by
  have e1 : (Int32.ofNat a).toInt = a := Int32.toInt_ofNat_of_lt (by omega)
  have e2 : (Int32.ofNat b).toInt = b := Int32.toInt_ofNat_of_lt (by omega)
  rw [← Int32.toInt_inj, e1, e2]; omega
theorem on_succ (a : Nat) : Int32.ofNat a + (1 : Int32) = Int32.ofNat (a + 1) := by
  rw [Int32.ofNat_add]; rfl
theorem on_nn {a : Nat} (ha : a < 2 ^ 31) : ¬ Int32.ofNat a < 0 := Own.nn32 ha
/-- the first place from i on (in the list that stands at i) where ch stands, or -1 -/
def ixF : List Int32 → Int32 → Nat → Int32
  | [], _, _ => (-1 : Int32)
  | c :: r, ch, i => if c = ch then Int32.ofNat i else ixF r ch (i + 1)
theorem ixF_cases : ∀ (l : List Int32) (ch : Int32) (i : Nat), (ixF l ch i = (-1 : Int32) ∧ ch ∉ l) ∨ ∃ j, j < l.length ∧ ixF l ch i = Int32.ofNat (i + j) ∧ ch ∈ l
  | [], ch, i => Or.inl ⟨rfl, by simp⟩
  | c :: r, ch, i => by
    by_cases q : c = ch
    · exact Or.inr ⟨0, by simp, by simp [ixF, q], by simp [q]⟩
    · rcases ixF_cases r ch (i + 1) with ⟨h1, h2⟩ | ⟨j, h1, h2, h3⟩
      · exact Or.inl ⟨by simp [ixF, q, h1], by simp [h2, Ne.symm q]⟩
      · exact Or.inr ⟨j + 1, by simp [h1], by simp only [ixF, q, if_false, h2]; congr 1; omega, by simp [h3]⟩
/-- where skipFrom comes to -/
def sfV (cs : List Int32) (st : Int32) (i : Nat) : Int32 := if ixF (cs.drop i) st i < 0 then Int32.ofNat cs.length else ixF (cs.drop i) st i
theorem neg1 : (-1 : Int32) < 0 := by decide
theorem sfV_end (cs : List Int32) (st : Int32) (hl : cs.length ≤ 4000) : sfV cs st 0 = Int32.ofNat cs.length ↔ st ∉ cs := by
  unfold sfV
  rw [List.drop_zero]
  rcases ixF_cases cs st 0 with ⟨h1, h2⟩ | ⟨j, h1, h2, h3⟩
  · rw [h1, if_pos neg1]; simp [h2]
  · rw [h2, if_neg (on_nn (by omega)), on_eq (by omega) (by omega)]
    constructor
    · intro z; omega
    · intro z; exact absurd h3 z
/-- how many chars of white space lead -/
def wsL : List Int32 → Nat
  | [] => 0
  | c :: r => if c = (32 : Int32) ∨ c = (9 : Int32) then wsL r + 1 else 0
theorem wsL_le : ∀ l : List Int32, wsL l ≤ l.length
  | [] => Nat.le_refl _
  | c :: r => by
    have := wsL_le r
    unfold wsL; split <;> simp <;> omega
theorem wsL_all : ∀ l : List Int32, wsL l = l.length ↔ ∀ c ∈ l, c = (32 : Int32) ∨ c = (9 : Int32)
  | [] => by simp [wsL]
  | c :: r => by
    have q := wsL_le r
    unfold wsL
    by_cases z : c = (32 : Int32) ∨ c = (9 : Int32)
    · rw [if_pos z]; simp [z, wsL_all r]
    · rw [if_neg z]; simp [z]
theorem drop_at {cs : List Int32} {i : Nat} (h : i < cs.length) : cs.drop i = cs.getD i 0 :: cs.drop (i + 1) := by
  rw [List.drop_eq_getElem_cons h]; simp [List.getD_eq_getElem?_getD, h]
theorem lo8_eq {c ch : Int32} (h1 : ¬ c < 0 ∧ ¬ (255 : Int32) < c) (h2 : ¬ ch < 0 ∧ ¬ (255 : Int32) < ch) : c.toInt8.toInt32 = ch.toInt8.toInt32 ↔ c = ch := by
  have q1 := c_i2b c; have q2 := c_i2b ch
  have e0 : (0 : Int32).toInt = 0 := rfl
  have e1 : (255 : Int32).toInt = 255 := rfl
  rw [Int32.lt_iff_toInt_lt, Int32.lt_iff_toInt_lt, e0, e1] at h1 h2
  rw [← Int32.toInt_inj, ← Int32.toInt_inj]
  omega
theorem nar_id {c : Int32} (h1 : ¬ c < 0 ∧ ¬ (65535 : Int32) < c) : nar .char c = c := by
  have q := c_i2c c
  have e0 : (0 : Int32).toInt = 0 := rfl
  have e1 : (65535 : Int32).toInt = 65535 := rfl
  rw [Int32.lt_iff_toInt_lt, Int32.lt_iff_toInt_lt, e0, e1] at h1
  rw [← Int32.toInt_inj]
  show (c.toUInt32.toUInt16.toUInt32.toInt32).toInt = _
  omega
theorem up16 {c : Int32} (h : ¬ c < 0 ∧ ¬ (255 : Int32) < c) : ¬ c < 0 ∧ ¬ (65535 : Int32) < c := ⟨h.1, fun r => h.2 (by
  rw [Int32.lt_iff_toInt_lt] at r ⊢; have e1 : (65535 : Int32).toInt = 65535 := rfl; have e2 : (255 : Int32).toInt = 255 := rfl; omega)⟩
/-- a String of Latin-1 chars: her bytes -/
theorem Str.latin {Z : State} {h : Heap} {a : Addr} {cs : List Int32} (S : Str Z h a cs) (hl : ∀ c ∈ cs, ¬ (255 : Int32) < c) : ∃ t, Exa Z h a "java/lang/String" ∧ Fld Z h a "java/lang/String" "value" "[B" (.ref t) ∧ Fld Z h a "java/lang/String" "coder" "B" (.int 0) ∧ Own.Ary Z h t .byte (cs.map fun c => Value.int c.toInt8.toInt32) := by
  obtain ⟨t, kb, cd, N, vs, s1, s2, s3, s4, s5, s6, s7⟩ := S
  rcases s5 with ⟨rfl, rfl, rfl, -⟩ | ⟨-, -, -, c, hc, hw⟩
  · refine ⟨t, s1, s2, s3, Own.Ary.of_arv s4 ?_ (by simp; omega)⟩
    rw [Own.n32 (by omega)]; simp
  · exact absurd hw (hl c hc)

theorem Str.keepS {Z : State} {a0 : Array Value} {h h' : Heap} {a b : Addr} {cs : List Int32} {C : String} {kI : Nat} (S : Str Z h a cs) (K : Keep h h' [b]) (E : Exa Z h b C) (n1 : a ≠ b) (wi : (Jvm.Cond.instantiable C kI).before a0 Z = true) : Str Z h' a cs := by
  obtain ⟨t, kb, cd, N, vs, s1, s2, s3, s4, r⟩ := S
  have n2 : t ≠ b := (Exa.neArv E s4 wi).symm
  exact ⟨t, kb, cd, N, vs, s1.keep K, s2.keep K (ninS n1 nin0), s3.keep K (ninS n1 nin0), s4.keep K (ninS n2 nin0), r⟩
theorem d63_0 : decode jdk_29_method_65_code 0 = .ok (.iload_n 0, 1) := by decide +kernel
theorem d63_1 : decode jdk_29_method_65_code 1 = .ok (.iload_n 1, 1) := by decide +kernel
theorem d63_2 : decode jdk_29_method_65_code 2 = .ok (.if_icmp .lt 7, 3) := by decide +kernel
theorem d63_5 : decode jdk_29_method_65_code 5 = .ok (.iload_n 0, 1) := by decide +kernel
theorem d63_6 : decode jdk_29_method_65_code 6 = .ok (.goto 4, 3) := by decide +kernel
theorem d63_9 : decode jdk_29_method_65_code 9 = .ok (.iload_n 1, 1) := by decide +kernel
theorem d63_10 : decode jdk_29_method_65_code 10 = .ok (.ireturn, 1) := by decide +kernel
theorem ef_own_max (m : MethodId) (x : Int32) (y : Int32) : entryFrame m #[(.int x), (.int y)] 2 = mkF m 0 #[.val (.int x), .val (.int y)] [] := by first | (simp [entryFrame, mkF, argsToLocals, Value.category]; done) | rfl
set_option maxRecDepth 65536 in
set_option maxHeartbeats 40000000 in
theorem own_max (l : Launch) (Z : State) (a0 : Array Value) (hw : ∀ d ∈ tables_1, d.before a0 Z = true) (hEL : EW Z a0 consts_1) (x : Int32) (y : Int32) (h : Heap) :
    Con l Z consts_1 True (⟨"java/lang/Math", "max", "(II)I"⟩ : MethodName) jdk_29_method_65_code 2 (some .int) ({ frames := 0, cells := 0, slots := 0, locals := 0 } : Room) [] #[(.int x), (.int y)] h (fun v h' ws' => v = some (.int (if x < y then y else x)) ∧ h' = h ∧ ws' = []) := by
  refine Con.intro own_pn0 (fun p e s m below meth c T X => ?_)
  rw [ef_own_max m x y]
  refine s_iloadN X (pc' := 1) d63_0 rfl rfl ?_
  refine s_iloadN X (pc' := 2) d63_1 rfl rfl ?_
  refine s_icmp X (pc' := 9) (pcF := 5) d63_2 (by decide) (by decide) rfl (fun (q : x < y) => ?_) (fun (q : ¬ x < y) => ?_)
  · refine s_iloadN X (pc' := 10) d63_9 rfl rfl ?_
    exact s_iret X hEL (ws' := []) d63_10 (by decide) (by decide) (fun x q => by simp at q) ⟨by rw [if_pos q], rfl, rfl⟩
  · refine s_iloadN X (pc' := 6) d63_5 rfl rfl ?_
    refine s_goto X (pc' := 10) d63_6 (by decide) (by decide) ?_
    exact s_iret X hEL (ws' := []) d63_10 (by decide) (by decide) (fun x q => by simp at q) ⟨by rw [if_neg q], rfl, rfl⟩
theorem d28_0 : decode jdk_29_method_69_code 0 = .ok (.iload_n 0, 1) := by decide +kernel
theorem d28_1 : decode jdk_29_method_69_code 1 = .ok (.iload_n 1, 1) := by decide +kernel
theorem d28_2 : decode jdk_29_method_69_code 2 = .ok (.if_icmp .gt 7, 3) := by decide +kernel
theorem d28_5 : decode jdk_29_method_69_code 5 = .ok (.iload_n 0, 1) := by decide +kernel
theorem d28_6 : decode jdk_29_method_69_code 6 = .ok (.goto 4, 3) := by decide +kernel
theorem d28_9 : decode jdk_29_method_69_code 9 = .ok (.iload_n 1, 1) := by decide +kernel
theorem d28_10 : decode jdk_29_method_69_code 10 = .ok (.ireturn, 1) := by decide +kernel
theorem ef_own_min (m : MethodId) (x : Int32) (y : Int32) : entryFrame m #[(.int x), (.int y)] 2 = mkF m 0 #[.val (.int x), .val (.int y)] [] := by first | (simp [entryFrame, mkF, argsToLocals, Value.category]; done) | rfl
set_option maxRecDepth 65536 in
set_option maxHeartbeats 40000000 in
theorem own_min (l : Launch) (Z : State) (a0 : Array Value) (hw : ∀ d ∈ tables_1, d.before a0 Z = true) (hEL : EW Z a0 consts_1) (x : Int32) (y : Int32) (h : Heap) :
    Con l Z consts_1 True (⟨"java/lang/Math", "min", "(II)I"⟩ : MethodName) jdk_29_method_69_code 2 (some .int) ({ frames := 0, cells := 0, slots := 0, locals := 0 } : Room) [] #[(.int x), (.int y)] h (fun v h' ws' => v = some (.int (if y < x then y else x)) ∧ h' = h ∧ ws' = []) := by
  refine Con.intro own_pn1 (fun p e s m below meth c T X => ?_)
  rw [ef_own_min m x y]
  refine s_iloadN X (pc' := 1) d28_0 rfl rfl ?_
  refine s_iloadN X (pc' := 2) d28_1 rfl rfl ?_
  refine s_icmp X (pc' := 9) (pcF := 5) d28_2 (by decide) (by decide) rfl (fun (q : y < x) => ?_) (fun (q : ¬ y < x) => ?_)
  · refine s_iloadN X (pc' := 10) d28_9 rfl rfl ?_
    exact s_iret X hEL (ws' := []) d28_10 (by decide) (by decide) (fun x q => by simp at q) ⟨by rw [if_pos q], rfl, rfl⟩
  · refine s_iloadN X (pc' := 6) d28_5 rfl rfl ?_
    refine s_goto X (pc' := 10) d28_6 (by decide) (by decide) ?_
    exact s_iret X hEL (ws' := []) d28_10 (by decide) (by decide) (fun x q => by simp at q) ⟨by rw [if_neg q], rfl, rfl⟩

def bys (cs : List Int32) : List Value := cs.map fun c => Value.int c.toInt8.toInt32
theorem bys_len (cs : List Int32) : (bys cs).length = cs.length := by simp [bys]
theorem bys_app (a b : List Int32) : bys (a ++ b) = bys a ++ bys b := by simp [bys]
def Lat (cs : List Int32) : Prop := ∀ c ∈ cs, ¬ c < 0 ∧ ¬ (255 : Int32) < c
theorem Lat.app {a b : List Int32} (p : Lat a) (q : Lat b) : Lat (a ++ b) := fun c hc => (List.mem_append.mp hc).elim (p c) (q c)
theorem Str.len {Z : State} {h : Heap} {a : Addr} {cs : List Int32} (S : Str Z h a cs) : cs.length ≤ 4000 := by obtain ⟨_, _, _, _, _, _, _, _, _, _, _, q⟩ := S; exact q
theorem Str.ofLatin {Z : State} {h : Heap} {a t : Addr} {cs : List Int32} (s1 : Exa Z h a "java/lang/String") (s2 : Fld Z h a "java/lang/String" "value" "[B" (.ref t)) (s3 : Fld Z h a "java/lang/String" "coder" "B" (.int 0)) (A : Own.Ary Z h t .byte (bys cs)) (q : Lat cs) (s7 : cs.length ≤ 4000) : Str Z h a cs := by
  obtain ⟨kb, A'⟩ := A.arv (.int 0)
  exact ⟨t, kb, 0, _, _, s1, s2, s3, A', Or.inl ⟨rfl, by rw [bys_len], rfl, fun c hc => (q c hc).2⟩, fun c hc => up16 (q c hc), s7⟩
theorem on_add (a b : Nat) : Int32.ofNat a + Int32.ofNat b = Int32.ofNat (a + b) := (Int32.ofNat_add a b).symm
theorem cap16 {m : Nat} (h : m ≤ 16) : ¬ (0 : Int32) < Int32.ofNat m - (16 : Int32) := fun z => by
  have q := c_isub (Int32.ofNat m) 16
  have e1 : (Int32.ofNat m).toInt = m := Int32.toInt_ofNat_of_lt (by omega)
  have e2 : (16 : Int32).toInt = 16 := rfl
  have e0 : (0 : Int32).toInt = 0 := rfl
  have b1 := Int32.toInt_lt (Int32.ofNat m - (16 : Int32))
  have b2 := Int32.le_toInt (Int32.ofNat m - (16 : Int32))
  rw [Int32.lt_iff_toInt_lt, e0] at z
  rw [e1, e2] at q
  omega
theorem shl0 (x : Int32) : x <<< ((0 : Int32) &&& 31) = x := by
  rw [← Int32.toInt_inj]
  have q := c_ishl x 0 0 (by decide)
  have b1 := Int32.toInt_lt (x <<< ((0 : Int32) &&& 31))
  have b2 := Int32.le_toInt (x <<< ((0 : Int32) &&& 31))
  have b3 := Int32.toInt_lt x
  have b4 := Int32.le_toInt x
  have e : ((2 ^ 0 : Nat) : Int) = 1 := by decide
  rw [e] at q
  omega
theorem sub0 (x : Int32) : x - (0 : Int32) = x := by simp

/-- a StringBuilder and her chars; r: what lies behind them in her array -/
def SBD (Z : State) (h : Heap) (k t : Addr) (ds : List Int32) (r : List Value) : Prop := Exa Z h k "java/lang/StringBuilder" ∧ Fld Z h k "java/lang/AbstractStringBuilder" "value" "[B" (.ref t) ∧ Fld Z h k "java/lang/AbstractStringBuilder" "coder" "B" (.int (0 : Int32)) ∧ Fld Z h k "java/lang/AbstractStringBuilder" "count" "I" (.int (Int32.ofNat ds.length)) ∧ Own.Ary Z h t .byte (bys ds ++ r) ∧ Exa Z h t "[B"
theorem SBD.ext {Z : State} {h h' : Heap} {k t : Addr} {ds : List Int32} {r : List Value} (S : SBD Z h k t ds r) (E : Ext h h') : SBD Z h' k t ds r := ⟨S.1.ext E, S.2.1.ext E, S.2.2.1.ext E, S.2.2.2.1.ext E, S.2.2.2.2.1.ext E, S.2.2.2.2.2.ext E⟩
def capN (cap need : Nat) : Nat := if need ≤ cap then cap else max need (2 * cap + 2)
theorem shr0' (x : Int32) : x >>> ((0 : Int32) &&& 31) = x := by
  rw [← Int32.toInt_inj, c_ishr x 0 0 (by decide)]
  have e : ((2 ^ 0 : Nat) : Int) = 1 := by decide
  rw [e]; omega
theorem on_subZ {a b : Nat} (ha : a ≤ 5000) (hb : b ≤ 5000) : (0 : Int32) < Int32.ofNat a - Int32.ofNat b ↔ b < a := by
  have q := c_isub (Int32.ofNat a) (Int32.ofNat b)
  have e1 : (Int32.ofNat a).toInt = a := Int32.toInt_ofNat_of_lt (by omega)
  have e2 : (Int32.ofNat b).toInt = b := Int32.toInt_ofNat_of_lt (by omega)
  have e0 : (0 : Int32).toInt = 0 := rfl
  have b1 := Int32.toInt_lt (Int32.ofNat a - Int32.ofNat b)
  have b2 := Int32.le_toInt (Int32.ofNat a - Int32.ofNat b)
  rw [Int32.lt_iff_toInt_lt, e0]
  rw [e1, e2] at q
  omega
theorem on_subN {a b : Nat} (h : b ≤ a) (ha : a ≤ 5000) : Int32.ofNat a - Int32.ofNat b = Int32.ofNat (a - b) := by
  have q := c_isub (Int32.ofNat a) (Int32.ofNat b)
  have e1 : (Int32.ofNat a).toInt = a := Int32.toInt_ofNat_of_lt (by omega)
  have e2 : (Int32.ofNat b).toInt = b := Int32.toInt_ofNat_of_lt (by omega)
  have e3 : (Int32.ofNat (a - b)).toInt = (a - b : Nat) := Int32.toInt_ofNat_of_lt (by omega)
  have b1 := Int32.toInt_lt (Int32.ofNat a - Int32.ofNat b)
  have b2 := Int32.le_toInt (Int32.ofNat a - Int32.ofNat b)
  rw [← Int32.toInt_inj, e3]
  rw [e1, e2] at q
  omega
theorem on_max {a b : Nat} (ha : a ≤ 5000) (hb : b ≤ 5000) : (if Int32.ofNat a < Int32.ofNat b then Int32.ofNat b else Int32.ofNat a) = Int32.ofNat (max a b) := by
  by_cases q : a < b
  · rw [if_pos ((on_lt (by omega) (by omega)).mpr q)]; congr 1; omega
  · rw [if_neg (fun z => q ((on_lt (by omega) (by omega)).mp z))]; congr 1; omega
theorem on_min {a b : Nat} (ha : a ≤ 5000) (hb : b ≤ 5000) : (if Int32.ofNat b < Int32.ofNat a then Int32.ofNat b else Int32.ofNat a) = Int32.ofNat (min a b) := by
  by_cases q : b < a
  · rw [if_pos ((on_lt (by omega) (by omega)).mpr q)]; congr 1; omega
  · rw [if_neg (fun z => q ((on_lt (by omega) (by omega)).mp z))]; congr 1; omega
theorem small_ne {a : Nat} (ha : a ≤ 5000) : ¬ Int32.ofNat a = (2147483647 : Int32) := fun z => by
  have e1 : (Int32.ofNat a).toInt = a := Int32.toInt_ofNat_of_lt (by omega)
  have e2 : (2147483647 : Int32).toInt = 2147483647 := rfl
  rw [z, e2] at e1; omega
theorem small_le {a : Nat} (ha : a ≤ 5000) : ¬ (2147483639 : Int32) < Int32.ofNat a := fun z => by
  have e1 : (Int32.ofNat a).toInt = a := Int32.toInt_ofNat_of_lt (by omega)
  have e2 : (2147483639 : Int32).toInt = 2147483639 := rfl
  rw [Int32.lt_iff_toInt_lt, e1, e2] at z; omega
theorem d13_0 : decode jdk_42_method_152_code 0 = .ok (.getstatic 38, 3) := by decide +kernel
theorem d13_3 : decode jdk_42_method_152_code 3 = .ok (.ifCond .eq 10, 3) := by decide +kernel
theorem d13_6 : decode jdk_42_method_152_code 6 = .ok (.aload_n 0, 1) := by decide +kernel
theorem d13_7 : decode jdk_42_method_152_code 7 = .ok (.getfield 15, 3) := by decide +kernel
theorem d13_10 : decode jdk_42_method_152_code 10 = .ok (.goto 4, 3) := by decide +kernel
theorem d13_13 : decode jdk_42_method_152_code 13 = .ok (.iconst 1, 1) := by decide +kernel
theorem d13_14 : decode jdk_42_method_152_code 14 = .ok (.ireturn, 1) := by decide +kernel
theorem ef_sb_cod (m : MethodId) (a : Addr) : entryFrame m #[(.ref a)] 1 = mkF m 0 #[.val (.ref a)] [] := by first | (simp [entryFrame, mkF, argsToLocals, Value.category]; done) | rfl
set_option maxRecDepth 65536 in
set_option maxHeartbeats 40000000 in
theorem sb_cod (l : Launch) (Z : State) (a0 : Array Value) (hw : ∀ d ∈ tables_1, d.before a0 Z = true) (hEL : EW Z a0 consts_1) (a : Addr) {G1 : Int32} (h : Heap) (F_a_coder : Fld Z h a "java/lang/String" "coder" "B" (.int (0 : Int32))) (O2 : Sta Z Z.heap "java/lang/String" "COMPACT_STRINGS" "Z" (.int G1)) (P5 : ¬ (G1 = (0 : Int32))) :
    Con l Z consts_1 True (⟨"java/lang/String", "coder", "()B"⟩ : MethodName) jdk_42_method_152_code 1 (some .byte) ({ frames := 0, cells := 0, slots := 0, locals := 0 } : Room) [] #[(.ref a)] h (fun v h' ws' => v = some (.int (0)) ∧ h' = h ∧ ws' = []) := by
  refine Con.intro own_pn2 (fun p e s m below meth c T X => ?_)
  rw [ef_sb_cod m a]
  refine s_gets X (pc' := 3) d13_0 (hw _ (List.mem_of_getElem? (i := 14) rfl)) Via.refl O2 rfl (fun T X => ?_)
  refine s_ifF X (pc' := 6) d13_3 P5 rfl ?_
  refine s_aloadN X (pc' := 7) d13_6 rfl rfl rfl ?_
  refine s_getf X (pc' := 10) d13_7 (hw _ (List.mem_of_getElem? (i := 26) rfl)) Via.refl F_a_coder rfl (fun T X => ?_)
  refine s_goto X (pc' := 14) d13_10 (by decide) (by decide) ?_
  exact s_iretN X hEL (ws' := []) (t := .byte) d13_14 rfl (by simp) (by decide) (by decide) (fun x q => by simp at q) ⟨rfl, rfl, rfl⟩
theorem d16_0 : decode jdk_68_method_71_code 0 = .ok (.getstatic 18, 3) := by decide +kernel
theorem d16_3 : decode jdk_68_method_71_code 3 = .ok (.ifCond .eq 18, 3) := by decide +kernel
theorem d16_6 : decode jdk_68_method_71_code 6 = .ok (.aload_n 0, 1) := by decide +kernel
theorem d16_7 : decode jdk_68_method_71_code 7 = .ok (.getfield 22, 3) := by decide +kernel
theorem d16_10 : decode jdk_68_method_71_code 10 = .ok (.aload_n 1, 1) := by decide +kernel
theorem d16_11 : decode jdk_68_method_71_code 11 = .ok (.invokevirtual 40, 3) := by decide +kernel
theorem d16_14 : decode jdk_68_method_71_code 14 = .ok (.if_icmp .eq 7, 3) := by decide +kernel
theorem d16_21 : decode jdk_68_method_71_code 21 = .ok (.return_, 1) := by decide +kernel
theorem ef_sb_inf (m : MethodId) (k x : Addr) : entryFrame m #[(.ref k), (.ref x)] 2 = mkF m 0 #[.val (.ref k), .val (.ref x)] [] := by first | (simp [entryFrame, mkF, argsToLocals, Value.category]; done) | rfl
set_option maxRecDepth 65536 in
set_option maxHeartbeats 40000000 in
theorem sb_inf (l : Launch) (Z : State) (a0 : Array Value) (hw : ∀ d ∈ tables_1, d.before a0 Z = true) (hEL : EW Z a0 consts_1) (k x : Addr) (h : Heap) {t : Addr} {G1 : Int32} (F_k_value : Fld Z h k "java/lang/AbstractStringBuilder" "value" "[B" (.ref t)) (F_k_coder : Fld Z h k "java/lang/AbstractStringBuilder" "coder" "B" (.int (0 : Int32))) (E_x : Exa Z h x "java/lang/String") (F_x_coder : Fld Z h x "java/lang/String" "coder" "B" (.int (0 : Int32))) (O2 : Sta Z Z.heap "java/lang/String" "COMPACT_STRINGS" "Z" (.int G1)) (P5 : ¬ (G1 = (0 : Int32))) :
    Con l Z consts_1 True (⟨"java/lang/AbstractStringBuilder", "inflateIfNeededFor", "(Ljava/lang/String;)V"⟩ : MethodName) jdk_68_method_71_code 2 none ({ frames := 1, cells := 0, slots := 0, locals := 13 } : Room) [] #[(.ref k), (.ref x)] h (fun v h' ws' => v = none ∧ h' = h ∧ ws' = []) := by
  refine Con.intro own_pn3 (fun p e s m below meth c T X => ?_)
  rw [ef_sb_inf m k x]
  refine s_gets X (pc' := 3) d16_0 (hw _ (List.mem_of_getElem? (i := 49) rfl)) Via.refl O2 rfl (fun T X => ?_)
  refine s_ifF X (pc' := 6) d16_3 P5 rfl ?_
  refine s_aloadN X (pc' := 7) d16_6 rfl rfl rfl ?_
  refine s_getf X (pc' := 10) d16_7 (hw _ (List.mem_of_getElem? (i := 52) rfl)) Via.refl F_k_coder rfl (fun T X => ?_)
  refine s_aloadN X (pc' := 11) d16_10 rfl rfl rfl ?_
  refine s_virtual X (pc' := 14) (W := 1) (as' := []) (S := [(.int (0 : Int32))]) (k' := 0) (n' := 0) d16_11 (hw _ (List.mem_of_getElem? (i := 91) rfl)) (hw _ (List.mem_of_getElem? (i := 70) rfl)) (hw _ (List.mem_of_getElem? (i := 72) rfl)) (hw _ (List.mem_of_getElem? (i := 71) rfl)) (nface (hw _ (List.mem_of_getElem? (i := 72) rfl))) (by decide) own_pd0 rfl E_x ((sb_cod l Z a0 hw hEL x _ F_x_coder O2 P5).payS (by simp) (hw _ (List.mem_of_getElem? (i := 73) rfl)) (hw _ (List.mem_of_getElem? (i := 2) rfl)) hEL (by decide) (by decide)) (Nat.le_of_ble_eq_true rfl) rfl rfl (by decide) (by decide) (by decide) (by decide) rfl (fun T h1 v_ ws_ X hgr_ q2 => ?_)
  obtain ⟨rfl, e_, rfl⟩ := q2
  rw [e_] at X
  show Go p e below _ T (mkF m 14 #[.val (.ref k), .val (.ref x)] [(.int (0 : Int32)), (.int (0 : Int32))])
  replace X := X.sub (ws' := []) (by simp)
  refine s_icmpT X (pc' := 21) d16_14 (show (0 : Int32) = (0 : Int32) by decide) (by decide) (by decide) ?_
  exact s_ret X hEL (ws' := []) d16_21 (by decide) (by decide) (fun x q => by simp at q) ⟨rfl, rfl, rfl⟩
theorem d17_0 : decode jdk_42_method_147_code 0 = .ok (.aload_n 0, 1) := by decide +kernel
theorem d17_1 : decode jdk_42_method_147_code 1 = .ok (.invokevirtual 335, 3) := by decide +kernel
theorem d17_4 : decode jdk_42_method_147_code 4 = .ok (.iload_n 3, 1) := by decide +kernel
theorem d17_5 : decode jdk_42_method_147_code 5 = .ok (.if_icmp .ne 23, 3) := by decide +kernel
theorem d17_8 : decode jdk_42_method_147_code 8 = .ok (.aload_n 0, 1) := by decide +kernel
theorem d17_9 : decode jdk_42_method_147_code 9 = .ok (.getfield 9, 3) := by decide +kernel
theorem d17_12 : decode jdk_42_method_147_code 12 = .ok (.iconst 0, 1) := by decide +kernel
theorem d17_13 : decode jdk_42_method_147_code 13 = .ok (.aload_n 1, 1) := by decide +kernel
theorem d17_14 : decode jdk_42_method_147_code 14 = .ok (.iload_n 2, 1) := by decide +kernel
theorem d17_15 : decode jdk_42_method_147_code 15 = .ok (.iload_n 3, 1) := by decide +kernel
theorem d17_16 : decode jdk_42_method_147_code 16 = .ok (.ishl, 1) := by decide +kernel
theorem d17_17 : decode jdk_42_method_147_code 17 = .ok (.aload_n 0, 1) := by decide +kernel
theorem d17_18 : decode jdk_42_method_147_code 18 = .ok (.getfield 9, 3) := by decide +kernel
theorem d17_21 : decode jdk_42_method_147_code 21 = .ok (.arraylength, 1) := by decide +kernel
theorem d17_22 : decode jdk_42_method_147_code 22 = .ok (.invokestatic 212, 3) := by decide +kernel
theorem d17_25 : decode jdk_42_method_147_code 25 = .ok (.goto 18, 3) := by decide +kernel
theorem d17_43 : decode jdk_42_method_147_code 43 = .ok (.return_, 1) := by decide +kernel
theorem ef_sb_gb (m : MethodId) (x t : Addr) (d : Nat) : entryFrame m #[(.ref x), (.ref t), (.int (Int32.ofNat d)), (.int (0 : Int32))] 4 = mkF m 0 #[.val (.ref x), .val (.ref t), .val (.int (Int32.ofNat d)), .val (.int (0 : Int32))] [] := by first | (simp [entryFrame, mkF, argsToLocals, Value.category]; done) | rfl
set_option maxRecDepth 65536 in
set_option maxHeartbeats 40000000 in
theorem sb_gb (l : Launch) (Z : State) (a0 : Array Value) (hw : ∀ d ∈ tables_1, d.before a0 Z = true) (hEL : EW Z a0 consts_1) (x t : Addr) (d : Nat) (h : Heap) {tx : Addr} {cs : List Int32} {vt : List Value} {G1 : Int32} (E_x : Exa Z h x "java/lang/String") (F_x_value : Fld Z h x "java/lang/String" "value" "[B" (.ref tx)) (F_x_coder : Fld Z h x "java/lang/String" "coder" "B" (.int (0 : Int32))) (A_tx : Ary Z h tx .byte (bys cs)) (hcs : Lat cs) (hcl : cs.length ≤ 4000) (A_t : Ary Z h t .byte vt) (hd : d + cs.length ≤ vt.length) (g_t : Z.heap.size ≤ t) (O2 : Sta Z Z.heap "java/lang/String" "COMPACT_STRINGS" "Z" (.int G1)) (P5 : ¬ (G1 = (0 : Int32))) :
    Con l Z consts_1 True (⟨"java/lang/String", "getBytes", "([BIB)V"⟩ : MethodName) jdk_42_method_147_code 4 none ({ frames := 1, cells := 0, slots := 0, locals := 18 } : Room) [t] #[(.ref x), (.ref t), (.int (Int32.ofNat d)), (.int (0 : Int32))] h (fun v h' ws' => v = none ∧ Keep h h' [t] ∧ Ary Z h' t .byte (vt.take d ++ bys cs ++ vt.drop (d + cs.length)) ∧ ws' = []) := by
  refine Con.intro own_pn4 (fun p e s m below meth c T X => ?_)
  rw [ef_sb_gb m x t d]
  refine s_aloadN X (pc' := 1) d17_0 rfl rfl rfl ?_
  refine s_virtual X (pc' := 4) (W := 0) (as' := []) (S := []) (k' := 0) (n' := 0) d17_1 (hw _ (List.mem_of_getElem? (i := 69) rfl)) (hw _ (List.mem_of_getElem? (i := 70) rfl)) (hw _ (List.mem_of_getElem? (i := 72) rfl)) (hw _ (List.mem_of_getElem? (i := 71) rfl)) (nface (hw _ (List.mem_of_getElem? (i := 72) rfl))) (by decide) own_pd0 rfl E_x ((sb_cod l Z a0 hw hEL x _ F_x_coder O2 P5).payS (by simp) (hw _ (List.mem_of_getElem? (i := 73) rfl)) (hw _ (List.mem_of_getElem? (i := 2) rfl)) hEL (by decide) (by decide)) (Nat.le_of_ble_eq_true rfl) rfl rfl (by decide) (by decide) (by decide) (by decide) rfl (fun T h3 v_ ws_ X hgr_ q4 => ?_)
  obtain ⟨rfl, e_, rfl⟩ := q4
  rw [e_] at X
  show Go p e below _ T (mkF m 4 #[.val (.ref x), .val (.ref t), .val (.int (Int32.ofNat d)), .val (.int (0 : Int32))] [(.int (0 : Int32))])
  replace X := X.sub (ws' := [t]) (by simp)
  refine s_iloadN X (pc' := 5) d17_4 rfl rfl ?_
  refine s_icmpF X (pc' := 8) d17_5 (show (0 : Int32) = (0 : Int32) by decide) rfl ?_
  refine s_aloadN X (pc' := 9) d17_8 rfl rfl rfl ?_
  refine s_getf X (pc' := 12) d17_9 (hw _ (List.mem_of_getElem? (i := 28) rfl)) Via.refl F_x_value rfl (fun T X => ?_)
  refine s_iconst X (pc' := 13) d17_12 (v := (0 : Int32)) rfl rfl ?_
  refine s_aloadN X (pc' := 14) d17_13 rfl rfl rfl ?_
  refine s_iloadN X (pc' := 15) d17_14 rfl rfl ?_
  refine s_iloadN X (pc' := 16) d17_15 rfl rfl ?_
  refine s_ishl X (pc' := 17) d17_16 rfl ?_
  refine go_int (z := (Int32.ofNat d)) (shl0 _) ?_
  refine s_aloadN X (pc' := 18) d17_17 rfl rfl rfl ?_
  refine s_getf X (pc' := 21) d17_18 (hw _ (List.mem_of_getElem? (i := 28) rfl)) Via.refl F_x_value rfl (fun T X => ?_)
  refine s_alen X (pc' := 22) (z := (Int32.ofNat cs.length)) d17_21 A_tx (by rw [bys_len]) rfl ?_
  refine s_acopy X (pc' := 25) (sp := 0) (dp := d) (nn := cs.length) (W := 0) d17_22 (hw _ (List.mem_of_getElem? (i := 97) rfl)) (hw _ (List.mem_of_getElem? (i := 100) rfl)) (hw _ (List.mem_of_getElem? (i := 98) rfl)) (hw _ (List.mem_of_getElem? (i := 99) rfl)) A_tx A_t rfl rfl rfl rfl (by rw [bys_len]; omega) (hd) g_t (by simp) rfl (Nat.le_of_ble_eq_true rfl) (by decide) (by decide) rfl (fun T h1 X K_ A' => ?_)
  have q : ((bys cs).drop 0).take cs.length = bys cs := by rw [List.drop_zero, ← bys_len cs, List.take_length]
  rw [q] at A'
  refine s_goto X (pc' := 43) d17_25 (by decide) (by decide) ?_
  exact s_ret X hEL (ws' := []) d17_43 (by decide) (by decide) (fun x q => by simp at q) ⟨rfl, K_, A', rfl⟩
theorem d15_0 : decode jdk_68_method_73_code 0 = .ok (.aload_n 0, 1) := by decide +kernel
theorem d15_1 : decode jdk_68_method_73_code 1 = .ok (.aload_n 2, 1) := by decide +kernel
theorem d15_2 : decode jdk_68_method_73_code 2 = .ok (.invokevirtual 397, 3) := by decide +kernel
theorem d15_5 : decode jdk_68_method_73_code 5 = .ok (.aload_n 2, 1) := by decide +kernel
theorem d15_6 : decode jdk_68_method_73_code 6 = .ok (.aload_n 0, 1) := by decide +kernel
theorem d15_7 : decode jdk_68_method_73_code 7 = .ok (.getfield 15, 3) := by decide +kernel
theorem d15_10 : decode jdk_68_method_73_code 10 = .ok (.iload_n 1, 1) := by decide +kernel
theorem d15_11 : decode jdk_68_method_73_code 11 = .ok (.aload_n 0, 1) := by decide +kernel
theorem d15_12 : decode jdk_68_method_73_code 12 = .ok (.getfield 22, 3) := by decide +kernel
theorem d15_15 : decode jdk_68_method_73_code 15 = .ok (.invokevirtual 399, 3) := by decide +kernel
theorem d15_18 : decode jdk_68_method_73_code 18 = .ok (.return_, 1) := by decide +kernel
theorem ef_sb_psa (m : MethodId) (k x : Addr) (d : Nat) : entryFrame m #[(.ref k), (.int (Int32.ofNat d)), (.ref x)] 3 = mkF m 0 #[.val (.ref k), .val (.int (Int32.ofNat d)), .val (.ref x)] [] := by first | (simp [entryFrame, mkF, argsToLocals, Value.category]; done) | rfl
set_option maxRecDepth 65536 in
set_option maxHeartbeats 40000000 in
theorem sb_psa (l : Launch) (Z : State) (a0 : Array Value) (hw : ∀ d ∈ tables_1, d.before a0 Z = true) (hEL : EW Z a0 consts_1) (k x : Addr) (d : Nat) (h : Heap) {t tx : Addr} {cs : List Int32} {vt : List Value} {G1 : Int32} (E_k : Exa Z h k "java/lang/StringBuilder") (F_k_value : Fld Z h k "java/lang/AbstractStringBuilder" "value" "[B" (.ref t)) (F_k_coder : Fld Z h k "java/lang/AbstractStringBuilder" "coder" "B" (.int (0 : Int32))) (E_x : Exa Z h x "java/lang/String") (F_x_value : Fld Z h x "java/lang/String" "value" "[B" (.ref tx)) (F_x_coder : Fld Z h x "java/lang/String" "coder" "B" (.int (0 : Int32))) (A_tx : Ary Z h tx .byte (bys cs)) (hcs : Lat cs) (hcl : cs.length ≤ 4000) (A_t : Ary Z h t .byte vt) (hd : d + cs.length ≤ vt.length) (g_t : Z.heap.size ≤ t) (O2 : Sta Z Z.heap "java/lang/String" "COMPACT_STRINGS" "Z" (.int G1)) (P5 : ¬ (G1 = (0 : Int32))) :
    Con l Z consts_1 True (⟨"java/lang/AbstractStringBuilder", "putStringAt", "(ILjava/lang/String;)V"⟩ : MethodName) jdk_68_method_73_code 3 none ({ frames := 2, cells := 0, slots := 0, locals := 33 } : Room) [t] #[(.ref k), (.int (Int32.ofNat d)), (.ref x)] h (fun v h' ws' => v = none ∧ Keep h h' [t] ∧ Ary Z h' t .byte (vt.take d ++ bys cs ++ vt.drop (d + cs.length)) ∧ ws' = []) := by
  refine Con.intro own_pn5 (fun p e s m below meth c T X => ?_)
  rw [ef_sb_psa m k x d]
  refine s_aloadN X (pc' := 1) d15_0 rfl rfl rfl ?_
  refine s_aloadN X (pc' := 2) d15_1 rfl rfl rfl ?_
  refine s_priv X (pc' := 5) (W := 0) (as' := [(.ref x)]) (S := []) (k' := 0) (n' := 0) d15_2 (hw _ (List.mem_of_getElem? (i := 86) rfl)) (hw _ (List.mem_of_getElem? (i := 88) rfl)) (nfaceC (hw _ (List.mem_of_getElem? (i := 79) rfl)) rfl) (hw _ (List.mem_of_getElem? (i := 87) rfl)) (hw _ (List.mem_of_getElem? (i := 90) rfl)) (by decide) own_pd1 rfl E_k ((sb_inf l Z a0 hw hEL k x _ F_k_value F_k_coder E_x F_x_coder O2 P5).payS (by simp) (hw _ (List.mem_of_getElem? (i := 90) rfl)) (hw _ (List.mem_of_getElem? (i := 46) rfl)) hEL (by decide) (by decide)) (Nat.le_of_ble_eq_true rfl) rfl rfl (by decide) (by decide) (by decide) (by decide) rfl (fun T h5 v_ ws_ X hgr_ q6 => ?_)
  obtain ⟨rfl, e_, rfl⟩ := q6
  rw [e_] at X
  show Go p e below _ T (mkF m 5 #[.val (.ref k), .val (.int (Int32.ofNat d)), .val (.ref x)] [])
  replace X := X.sub (ws' := [t]) (by simp)
  refine s_aloadN X (pc' := 6) d15_5 rfl rfl rfl ?_
  refine s_aloadN X (pc' := 7) d15_6 rfl rfl rfl ?_
  refine s_getf X (pc' := 10) d15_7 (hw _ (List.mem_of_getElem? (i := 50) rfl)) Via.refl F_k_value rfl (fun T X => ?_)
  refine s_iloadN X (pc' := 11) d15_10 rfl rfl ?_
  refine s_aloadN X (pc' := 12) d15_11 rfl rfl rfl ?_
  refine s_getf X (pc' := 15) d15_12 (hw _ (List.mem_of_getElem? (i := 52) rfl)) Via.refl F_k_coder rfl (fun T X => ?_)
  refine s_virtual X (pc' := 18) (W := 0) (as' := [(.ref t), (.int (Int32.ofNat d)), (.int (0 : Int32))]) (S := []) (k' := 0) (n' := 0) d15_15 (hw _ (List.mem_of_getElem? (i := 92) rfl)) (hw _ (List.mem_of_getElem? (i := 93) rfl)) (hw _ (List.mem_of_getElem? (i := 95) rfl)) (hw _ (List.mem_of_getElem? (i := 94) rfl)) (nface (hw _ (List.mem_of_getElem? (i := 95) rfl))) (by decide) own_pd2 rfl E_x ((sb_gb l Z a0 hw hEL x t d _ E_x F_x_value F_x_coder A_tx hcs hcl A_t hd g_t O2 P5).payS (by simp) (hw _ (List.mem_of_getElem? (i := 96) rfl)) (hw _ (List.mem_of_getElem? (i := 2) rfl)) hEL (by decide) (by decide)) (Nat.le_of_ble_eq_true rfl) rfl rfl (by decide) (by decide) (by decide) (by decide) rfl (fun T h7 v_ ws_ X hgr_ q8 => ?_)
  obtain ⟨rfl, K_, A', rfl⟩ := q8
  show Go p e below _ T (mkF m 18 #[.val (.ref k), .val (.int (Int32.ofNat d)), .val (.ref x)] [])
  replace X := X.sub (ws' := [t]) (by simp)
  exact s_ret X hEL (ws' := []) d15_18 (by decide) (by decide) (fun x q => by simp at q) ⟨rfl, K_, A', rfl⟩
theorem d62_0 : decode jdk_48_method_27_code 0 = .ok (.iload_n 0, 1) := by decide +kernel
theorem d62_1 : decode jdk_48_method_27_code 1 = .ok (.iload_n 1, 1) := by decide +kernel
theorem d62_2 : decode jdk_48_method_27_code 2 = .ok (.iload_n 2, 1) := by decide +kernel
theorem d62_3 : decode jdk_48_method_27_code 3 = .ok (.invokestatic 194, 3) := by decide +kernel
theorem d62_6 : decode jdk_48_method_27_code 6 = .ok (.iadd, 1) := by decide +kernel
theorem d62_7 : decode jdk_48_method_27_code 7 = .ok (.istore_n 3, 1) := by decide +kernel
theorem d62_8 : decode jdk_48_method_27_code 8 = .ok (.iconst 0, 1) := by decide +kernel
theorem d62_9 : decode jdk_48_method_27_code 9 = .ok (.iload_n 3, 1) := by decide +kernel
theorem d62_10 : decode jdk_48_method_27_code 10 = .ok (.if_icmp .ge 11, 3) := by decide +kernel
theorem d62_13 : decode jdk_48_method_27_code 13 = .ok (.iload_n 3, 1) := by decide +kernel
theorem d62_14 : decode jdk_48_method_27_code 14 = .ok (.ldc 200, 2) := by decide +kernel
theorem d62_16 : decode jdk_48_method_27_code 16 = .ok (.if_icmp .gt 5, 3) := by decide +kernel
theorem d62_19 : decode jdk_48_method_27_code 19 = .ok (.iload_n 3, 1) := by decide +kernel
theorem d62_20 : decode jdk_48_method_27_code 20 = .ok (.ireturn, 1) := by decide +kernel
theorem ef_sb_nl (m : MethodId) (a b d : Nat) : entryFrame m #[(.int (Int32.ofNat a)), (.int (Int32.ofNat b)), (.int (Int32.ofNat d))] 4 = mkF m 0 #[.val (.int (Int32.ofNat a)), .val (.int (Int32.ofNat b)), .val (.int (Int32.ofNat d)), .unset] [] := by first | (simp [entryFrame, mkF, argsToLocals, Value.category]; done) | rfl
set_option maxRecDepth 65536 in
set_option maxHeartbeats 40000000 in
theorem sb_nl (l : Launch) (Z : State) (a0 : Array Value) (hw : ∀ d ∈ tables_1, d.before a0 Z = true) (hEL : EW Z a0 consts_1) (a b d : Nat) (h : Heap) (ha : a ≤ 1000) (hb : b ≤ 1000) (hd : d ≤ 1000) (h0 : 0 < a) :
    Con l Z consts_1 True (⟨"jdk/internal/util/ArraysSupport", "newLength", "(III)I"⟩ : MethodName) jdk_48_method_27_code 4 (some .int) ({ frames := 1, cells := 0, slots := 0, locals := 14 } : Room) [] #[(.int (Int32.ofNat a)), (.int (Int32.ofNat b)), (.int (Int32.ofNat d))] h (fun v h' ws' => v = some (.int (Int32.ofNat (a + max b d))) ∧ h' = h ∧ ws' = []) := by
  refine Con.intro own_pn6 (fun p e s m below meth c T X => ?_)
  rw [ef_sb_nl m a b d]
  refine s_iloadN X (pc' := 1) d62_0 rfl rfl ?_
  refine s_iloadN X (pc' := 2) d62_1 rfl rfl ?_
  refine s_iloadN X (pc' := 3) d62_2 rfl rfl ?_
  refine s_static X (pc' := 6) (W := 1) (as' := [(.int (Int32.ofNat b)), (.int (Int32.ofNat d))]) (S := [(.int (Int32.ofNat a))]) (k' := 0) (n' := 0) d62_3 (hw _ (List.mem_of_getElem? (i := 387) rfl)) (hw _ (List.mem_of_getElem? (i := 388) rfl)) (hw _ (List.mem_of_getElem? (i := 146) rfl)) (hw _ (List.mem_of_getElem? (i := 389) rfl)) (by decide) own_pd3 rfl ((own_max l Z a0 hw hEL (Int32.ofNat b) (Int32.ofNat d) _).payS (by simp) (hw _ (List.mem_of_getElem? (i := 389) rfl)) (hw _ (List.mem_of_getElem? (i := 146) rfl)) hEL (by decide) (by decide)) (Nat.le_of_ble_eq_true rfl) rfl rfl (by decide) (by decide) (by decide) (by decide) rfl (fun T h9 v_ ws_ X hgr_ q10 => ?_)
  obtain ⟨rfl, e_, rfl⟩ := q10
  rw [e_] at X
  show Go p e below _ T (mkF m 6 #[.val (.int (Int32.ofNat a)), .val (.int (Int32.ofNat b)), .val (.int (Int32.ofNat d)), .unset] [(.int (if (Int32.ofNat b) < (Int32.ofNat d) then (Int32.ofNat d) else (Int32.ofNat b))), (.int (Int32.ofNat a))])
  replace X := X.sub (ws' := []) (by simp)
  refine go_int (z := (Int32.ofNat (max b d))) (on_max (by omega) (by omega)) ?_
  refine s_iadd X (pc' := 7) d62_6 rfl ?_
  refine go_int (z := (Int32.ofNat (a + max b d))) (on_add _ _) ?_
  refine s_istoreN X (pc' := 8) (L' := #[.val (.int (Int32.ofNat a)), .val (.int (Int32.ofNat b)), .val (.int (Int32.ofNat d)), .val (.int (Int32.ofNat (a + max b d)))]) d62_7 rfl rfl ?_
  refine s_iconst X (pc' := 9) d62_8 (v := (0 : Int32)) rfl rfl ?_
  refine s_iloadN X (pc' := 10) d62_9 rfl rfl ?_
  refine s_icmpF X (pc' := 13) d62_10 (show (0 : Int32) < Int32.ofNat (a + max b d) from (on_lt (a := 0) (by omega) (by omega)).mpr (by omega)) rfl ?_
  refine s_iloadN X (pc' := 14) d62_13 rfl rfl ?_
  refine s_ldcI X (pc' := 16) d62_14 (hw _ (List.mem_of_getElem? (i := 390) rfl)) rfl ?_
  refine s_icmpF X (pc' := 19) d62_16 (small_le (by omega)) rfl ?_
  refine s_iloadN X (pc' := 20) d62_19 rfl rfl ?_
  exact s_iret X hEL (ws' := []) d62_20 (by decide) (by decide) (fun x q => by simp at q) ⟨rfl, rfl, rfl⟩
theorem d61_0 : decode jdk_68_method_10_code 0 = .ok (.aload_n 0, 1) := by decide +kernel
theorem d61_1 : decode jdk_68_method_10_code 1 = .ok (.getfield 15, 3) := by decide +kernel
theorem d61_4 : decode jdk_68_method_10_code 4 = .ok (.arraylength, 1) := by decide +kernel
theorem d61_5 : decode jdk_68_method_10_code 5 = .ok (.istore_n 2, 1) := by decide +kernel
theorem d61_6 : decode jdk_68_method_10_code 6 = .ok (.iload_n 1, 1) := by decide +kernel
theorem d61_7 : decode jdk_68_method_10_code 7 = .ok (.aload_n 0, 1) := by decide +kernel
theorem d61_8 : decode jdk_68_method_10_code 8 = .ok (.getfield 22, 3) := by decide +kernel
theorem d61_11 : decode jdk_68_method_10_code 11 = .ok (.ishl, 1) := by decide +kernel
theorem d61_12 : decode jdk_68_method_10_code 12 = .ok (.istore_n 3, 1) := by decide +kernel
theorem d61_13 : decode jdk_68_method_10_code 13 = .ok (.iload_n 3, 1) := by decide +kernel
theorem d61_14 : decode jdk_68_method_10_code 14 = .ok (.iload_n 2, 1) := by decide +kernel
theorem d61_15 : decode jdk_68_method_10_code 15 = .ok (.isub, 1) := by decide +kernel
theorem d61_16 : decode jdk_68_method_10_code 16 = .ok (.istore 4, 2) := by decide +kernel
theorem d61_18 : decode jdk_68_method_10_code 18 = .ok (.iload_n 2, 1) := by decide +kernel
theorem d61_19 : decode jdk_68_method_10_code 19 = .ok (.iload 4, 2) := by decide +kernel
theorem d61_21 : decode jdk_68_method_10_code 21 = .ok (.iload_n 2, 1) := by decide +kernel
theorem d61_22 : decode jdk_68_method_10_code 22 = .ok (.iconst 2, 1) := by decide +kernel
theorem d61_23 : decode jdk_68_method_10_code 23 = .ok (.aload_n 0, 1) := by decide +kernel
theorem d61_24 : decode jdk_68_method_10_code 24 = .ok (.getfield 22, 3) := by decide +kernel
theorem d61_27 : decode jdk_68_method_10_code 27 = .ok (.ishl, 1) := by decide +kernel
theorem d61_28 : decode jdk_68_method_10_code 28 = .ok (.iadd, 1) := by decide +kernel
theorem d61_29 : decode jdk_68_method_10_code 29 = .ok (.invokestatic 114, 3) := by decide +kernel
theorem d61_32 : decode jdk_68_method_10_code 32 = .ok (.istore 5, 2) := by decide +kernel
theorem d61_34 : decode jdk_68_method_10_code 34 = .ok (.iload 5, 2) := by decide +kernel
theorem d61_36 : decode jdk_68_method_10_code 36 = .ok (.ldc 39, 2) := by decide +kernel
theorem d61_38 : decode jdk_68_method_10_code 38 = .ok (.if_icmp .ne 13, 3) := by decide +kernel
theorem d61_51 : decode jdk_68_method_10_code 51 = .ok (.iload 5, 2) := by decide +kernel
theorem d61_53 : decode jdk_68_method_10_code 53 = .ok (.aload_n 0, 1) := by decide +kernel
theorem d61_54 : decode jdk_68_method_10_code 54 = .ok (.getfield 22, 3) := by decide +kernel
theorem d61_57 : decode jdk_68_method_10_code 57 = .ok (.ishr, 1) := by decide +kernel
theorem d61_58 : decode jdk_68_method_10_code 58 = .ok (.ireturn, 1) := by decide +kernel
theorem ef_sb_nc (m : MethodId) (k : Addr) (nd : Nat) : entryFrame m #[(.ref k), (.int (Int32.ofNat nd))] 6 = mkF m 0 #[.val (.ref k), .val (.int (Int32.ofNat nd)), .unset, .unset, .unset, .unset] [] := by first | (simp [entryFrame, mkF, argsToLocals, Value.category]; done) | rfl
set_option maxRecDepth 65536 in
set_option maxHeartbeats 40000000 in
theorem sb_nc (l : Launch) (Z : State) (a0 : Array Value) (hw : ∀ d ∈ tables_1, d.before a0 Z = true) (hEL : EW Z a0 consts_1) (k : Addr) (nd : Nat) (h : Heap) {t : Addr} {vt : List Value} (F_k_value : Fld Z h k "java/lang/AbstractStringBuilder" "value" "[B" (.ref t)) (F_k_coder : Fld Z h k "java/lang/AbstractStringBuilder" "coder" "B" (.int (0 : Int32))) (A_t : Ary Z h t .byte vt) (hv : vt.length ≤ 400) (h0 : 0 < vt.length) (hm : nd ≤ 800) (hlt : vt.length < nd) :
    Con l Z consts_1 True (⟨"java/lang/AbstractStringBuilder", "newCapacity", "(I)I"⟩ : MethodName) jdk_68_method_10_code 6 (some .int) ({ frames := 2, cells := 0, slots := 0, locals := 29 } : Room) [] #[(.ref k), (.int (Int32.ofNat nd))] h (fun v h' ws' => v = some (.int (Int32.ofNat (max nd (2 * vt.length + 2)))) ∧ h' = h ∧ ws' = []) := by
  refine Con.intro own_pn7 (fun p e s m below meth c T X => ?_)
  rw [ef_sb_nc m k nd]
  refine s_aloadN X (pc' := 1) d61_0 rfl rfl rfl ?_
  refine s_getf X (pc' := 4) d61_1 (hw _ (List.mem_of_getElem? (i := 50) rfl)) Via.refl F_k_value rfl (fun T X => ?_)
  refine s_alen X (pc' := 5) (z := (Int32.ofNat vt.length)) d61_4 A_t (rfl) rfl ?_
  refine s_istoreN X (pc' := 6) (L' := #[.val (.ref k), .val (.int (Int32.ofNat nd)), .val (.int (Int32.ofNat vt.length)), .unset, .unset, .unset]) d61_5 rfl rfl ?_
  refine s_iloadN X (pc' := 7) d61_6 rfl rfl ?_
  refine s_aloadN X (pc' := 8) d61_7 rfl rfl rfl ?_
  refine s_getf X (pc' := 11) d61_8 (hw _ (List.mem_of_getElem? (i := 52) rfl)) Via.refl F_k_coder rfl (fun T X => ?_)
  refine s_ishl X (pc' := 12) d61_11 rfl ?_
  refine go_int (z := (Int32.ofNat nd)) (shl0 _) ?_
  refine s_istoreN X (pc' := 13) (L' := #[.val (.ref k), .val (.int (Int32.ofNat nd)), .val (.int (Int32.ofNat vt.length)), .val (.int (Int32.ofNat nd)), .unset, .unset]) d61_12 rfl rfl ?_
  refine s_iloadN X (pc' := 14) d61_13 rfl rfl ?_
  refine s_iloadN X (pc' := 15) d61_14 rfl rfl ?_
  refine s_isub X (pc' := 16) d61_15 rfl ?_
  refine go_int (z := (Int32.ofNat (nd - vt.length))) (on_subN (by omega) (by omega)) ?_
  refine s_istore X (pc' := 18) (L' := #[.val (.ref k), .val (.int (Int32.ofNat nd)), .val (.int (Int32.ofNat vt.length)), .val (.int (Int32.ofNat nd)), .val (.int (Int32.ofNat (nd - vt.length))), .unset]) d61_16 rfl rfl ?_
  refine s_iloadN X (pc' := 19) d61_18 rfl rfl ?_
  refine s_iload X (pc' := 21) d61_19 rfl rfl ?_
  refine s_iloadN X (pc' := 22) d61_21 rfl rfl ?_
  refine s_iconst X (pc' := 23) d61_22 (v := (2 : Int32)) rfl rfl ?_
  refine s_aloadN X (pc' := 24) d61_23 rfl rfl rfl ?_
  refine s_getf X (pc' := 27) d61_24 (hw _ (List.mem_of_getElem? (i := 52) rfl)) Via.refl F_k_coder rfl (fun T X => ?_)
  refine s_ishl X (pc' := 28) d61_27 rfl ?_
  refine go_int (z := (2 : Int32)) (by decide) ?_
  refine s_iadd X (pc' := 29) d61_28 rfl ?_
  refine go_int (z := (Int32.ofNat (vt.length + 2))) (on_add vt.length 2) ?_
  refine s_static X (pc' := 32) (W := 0) (as' := [(.int (Int32.ofNat vt.length)), (.int (Int32.ofNat (nd - vt.length))), (.int (Int32.ofNat (vt.length + 2)))]) (S := []) (k' := 0) (n' := 0) d61_29 (hw _ (List.mem_of_getElem? (i := 383) rfl)) (hw _ (List.mem_of_getElem? (i := 384) rfl)) (hw _ (List.mem_of_getElem? (i := 385) rfl)) (hw _ (List.mem_of_getElem? (i := 386) rfl)) (by decide) own_pd4 rfl ((sb_nl l Z a0 hw hEL vt.length (nd - vt.length) (vt.length + 2) _ (by omega) (by omega) (by omega) h0).payS (by simp) (hw _ (List.mem_of_getElem? (i := 386) rfl)) (hw _ (List.mem_of_getElem? (i := 385) rfl)) hEL (by decide) (by decide)) (Nat.le_of_ble_eq_true rfl) rfl rfl (by decide) (by decide) (by decide) (by decide) rfl (fun T h11 v_ ws_ X hgr_ q12 => ?_)
  obtain ⟨rfl, e_, rfl⟩ := q12
  rw [e_] at X
  show Go p e below _ T (mkF m 32 #[.val (.ref k), .val (.int (Int32.ofNat nd)), .val (.int (Int32.ofNat vt.length)), .val (.int (Int32.ofNat nd)), .val (.int (Int32.ofNat (nd - vt.length))), .unset] [(.int (Int32.ofNat (vt.length + max (nd - vt.length) (vt.length + 2))))])
  replace X := X.sub (ws' := []) (by simp)
  refine go_int (z := (Int32.ofNat (max nd (2 * vt.length + 2)))) (by congr 1; omega) ?_
  refine s_istore X (pc' := 34) (L' := #[.val (.ref k), .val (.int (Int32.ofNat nd)), .val (.int (Int32.ofNat vt.length)), .val (.int (Int32.ofNat nd)), .val (.int (Int32.ofNat (nd - vt.length))), .val (.int (Int32.ofNat (max nd (2 * vt.length + 2))))]) d61_32 rfl rfl ?_
  refine s_iload X (pc' := 36) d61_34 rfl rfl ?_
  refine s_ldcI X (pc' := 38) d61_36 (hw _ (List.mem_of_getElem? (i := 391) rfl)) rfl ?_
  refine s_icmpT X (pc' := 51) d61_38 (small_ne (by omega)) (by decide) (by decide) ?_
  refine s_iload X (pc' := 53) d61_51 rfl rfl ?_
  refine s_aloadN X (pc' := 54) d61_53 rfl rfl rfl ?_
  refine s_getf X (pc' := 57) d61_54 (hw _ (List.mem_of_getElem? (i := 52) rfl)) Via.refl F_k_coder rfl (fun T X => ?_)
  refine s_ishr X (pc' := 58) d61_57 rfl ?_
  refine go_int (z := (Int32.ofNat (max nd (2 * vt.length + 2)))) (shr0' _) ?_
  exact s_iret X hEL (ws' := []) d61_58 (by decide) (by decide) (fun x q => by simp at q) ⟨rfl, rfl, rfl⟩
theorem d64_0 : decode jdk_65_method_121_code 0 = .ok (.iload_n 1, 1) := by decide +kernel
theorem d64_1 : decode jdk_65_method_121_code 1 = .ok (.aload_n 0, 1) := by decide +kernel
theorem d64_2 : decode jdk_65_method_121_code 2 = .ok (.arraylength, 1) := by decide +kernel
theorem d64_3 : decode jdk_65_method_121_code 3 = .ok (.if_icmp .ne 11, 3) := by decide +kernel
theorem d64_14 : decode jdk_65_method_121_code 14 = .ok (.iload_n 1, 1) := by decide +kernel
theorem d64_15 : decode jdk_65_method_121_code 15 = .ok (.newarray .byte, 2) := by decide +kernel
theorem d64_17 : decode jdk_65_method_121_code 17 = .ok (.astore_n 2, 1) := by decide +kernel
theorem d64_18 : decode jdk_65_method_121_code 18 = .ok (.aload_n 0, 1) := by decide +kernel
theorem d64_19 : decode jdk_65_method_121_code 19 = .ok (.iconst 0, 1) := by decide +kernel
theorem d64_20 : decode jdk_65_method_121_code 20 = .ok (.aload_n 2, 1) := by decide +kernel
theorem d64_21 : decode jdk_65_method_121_code 21 = .ok (.iconst 0, 1) := by decide +kernel
theorem d64_22 : decode jdk_65_method_121_code 22 = .ok (.aload_n 0, 1) := by decide +kernel
theorem d64_23 : decode jdk_65_method_121_code 23 = .ok (.arraylength, 1) := by decide +kernel
theorem d64_24 : decode jdk_65_method_121_code 24 = .ok (.iload_n 1, 1) := by decide +kernel
theorem d64_25 : decode jdk_65_method_121_code 25 = .ok (.invokestatic 304, 3) := by decide +kernel
theorem d64_28 : decode jdk_65_method_121_code 28 = .ok (.invokestatic 150, 3) := by decide +kernel
theorem d64_31 : decode jdk_65_method_121_code 31 = .ok (.aload_n 2, 1) := by decide +kernel
theorem d64_32 : decode jdk_65_method_121_code 32 = .ok (.areturn, 1) := by decide +kernel
theorem ef_sb_cpy (m : MethodId) (t : Addr) (N : Nat) : entryFrame m #[(.ref t), (.int (Int32.ofNat N))] 3 = mkF m 0 #[.val (.ref t), .val (.int (Int32.ofNat N)), .unset] [] := by first | (simp [entryFrame, mkF, argsToLocals, Value.category]; done) | rfl
set_option maxRecDepth 65536 in
set_option maxHeartbeats 40000000 in
theorem sb_cpy (l : Launch) (Z : State) (a0 : Array Value) (hw : ∀ d ∈ tables_1, d.before a0 Z = true) (hEL : EW Z a0 consts_1) (t : Addr) (N : Nat) (h : Heap) {vt : List Value} (A_t : Ary Z h t .byte vt) (hlt : vt.length < N) (hN : N ≤ 40) :
    Con l Z consts_1 True (⟨"java/util/Arrays", "copyOf", "([BI)[B"⟩ : MethodName) jdk_65_method_121_code 3 (some (.array .byte)) ({ frames := 1, cells := 1, slots := 40, locals := 18 } : Room) [] #[(.ref t), (.int (Int32.ofNat N))] h (fun v h' ws' => ∃ b, v = some (.ref b) ∧ Ext h h' ∧ h.size ≤ b ∧ Ary Z h' b .byte (vt ++ List.replicate (N - vt.length) (.int (0 : Int32))) ∧ Exa Z h' b "[B" ∧ ws' = [b]) := by
  refine Con.intro own_pn8 (fun p e s m below meth c T X => ?_)
  rw [ef_sb_cpy m t N]
  have R_ : Ext h h := ext_refl _
  refine s_iloadN X (pc' := 1) d64_0 rfl rfl ?_
  refine s_aloadN X (pc' := 2) d64_1 rfl rfl rfl ?_
  refine s_alen X (pc' := 3) (z := (Int32.ofNat vt.length)) d64_2 A_t (rfl) rfl ?_
  refine s_icmpT X (pc' := 14) d64_3 (show ¬ Int32.ofNat N = Int32.ofNat vt.length from fun z => Nat.ne_of_gt hlt ((on_eq (by omega) (by omega)).mp z)) (by decide) (by decide) ?_
  refine s_iloadN X (pc' := 15) d64_14 rfl rfl ?_
  refine s_newarrE X (pc' := 17) (k' := 1) (n' := 40) (N := N) (ad := "[B") d64_15 (hw _ (List.mem_of_getElem? (i := 19) rfl)) rfl (by omega) (by decide) (by decide) (by omega) (by decide) (by decide) rfl (fun T h1 b gb_b X' E1 A_b E_b => ?_)
  have g_b : Z.heap.size ≤ b := by rw [gb_b]; exact X.lt
  have ne_t_b : t ≠ b := Nat.ne_of_lt (by rw [gb_b]; exact A_t.lt)
  have sz_R__b : h.size ≤ b := by rw [gb_b]; exact R_.1
  replace A_t := A_t.ext E1
  replace R_ := ext_trans R_ E1
  replace X := X'
  refine s_astoreN X (pc' := 18) (L' := #[.val (.ref t), .val (.int (Int32.ofNat N)), .val (.ref b)]) d64_17 rfl rfl rfl ?_
  refine s_aloadN X (pc' := 19) d64_18 rfl rfl rfl ?_
  refine s_iconst X (pc' := 20) d64_19 (v := (0 : Int32)) rfl rfl ?_
  refine s_aloadN X (pc' := 21) d64_20 rfl rfl rfl ?_
  refine s_iconst X (pc' := 22) d64_21 (v := (0 : Int32)) rfl rfl ?_
  refine s_aloadN X (pc' := 23) d64_22 rfl rfl rfl ?_
  refine s_alen X (pc' := 24) (z := (Int32.ofNat vt.length)) d64_23 A_t (rfl) rfl ?_
  refine s_iloadN X (pc' := 25) d64_24 rfl rfl ?_
  refine s_static X (pc' := 28) (W := 4) (as' := [(.int (Int32.ofNat vt.length)), (.int (Int32.ofNat N))]) (S := [(.int (0 : Int32)), (.ref b), (.int (0 : Int32)), (.ref t)]) (k' := 1) (n' := 40) d64_25 (hw _ (List.mem_of_getElem? (i := 144) rfl)) (hw _ (List.mem_of_getElem? (i := 145) rfl)) (hw _ (List.mem_of_getElem? (i := 146) rfl)) (hw _ (List.mem_of_getElem? (i := 147) rfl)) (by decide) own_pd3 rfl ((own_min l Z a0 hw hEL (Int32.ofNat vt.length) (Int32.ofNat N) _).payS (by simp) (hw _ (List.mem_of_getElem? (i := 147) rfl)) (hw _ (List.mem_of_getElem? (i := 146) rfl)) hEL (by decide) (by decide)) (Nat.le_of_ble_eq_true rfl) rfl rfl (by decide) (by decide) (by decide) (by decide) rfl (fun T h13 v_ ws_ X hgr_ q14 => ?_)
  obtain ⟨rfl, e_, rfl⟩ := q14
  rw [e_] at X
  show Go p e below _ T (mkF m 28 #[.val (.ref t), .val (.int (Int32.ofNat N)), .val (.ref b)] [(.int (if (Int32.ofNat N) < (Int32.ofNat vt.length) then (Int32.ofNat N) else (Int32.ofNat vt.length))), (.int (0 : Int32)), (.ref b), (.int (0 : Int32)), (.ref t)])
  replace X := X.sub (ws' := [b]) (by simp)
  refine go_int (z := (Int32.ofNat vt.length)) ((on_min (by omega) (by omega)).trans (by congr 1; omega)) ?_
  refine s_acopy X (pc' := 31) (sp := 0) (dp := 0) (nn := vt.length) (W := 0) d64_28 (hw _ (List.mem_of_getElem? (i := 148) rfl)) (hw _ (List.mem_of_getElem? (i := 100) rfl)) (hw _ (List.mem_of_getElem? (i := 98) rfl)) (hw _ (List.mem_of_getElem? (i := 99) rfl)) A_t A_b rfl rfl rfl rfl (by omega) (by rw [List.length_replicate]; omega) g_b (by simp) rfl (Nat.le_of_ble_eq_true rfl) (by decide) (by decide) rfl (fun T h2 X K_ A' => ?_)
  replace E_b := E_b.keep K_
  replace R_ := ext_keep R_ K_ (allS sz_R__b all0)
  have A_c : Ary Z h2 b .byte (vt ++ List.replicate (N - vt.length) (.int (0 : Int32))) := by
    rw [List.drop_zero, List.take_length, List.take_zero, List.nil_append, Nat.zero_add, List.drop_replicate] at A'
    exact A'
  refine s_aloadN X (pc' := 32) d64_31 rfl rfl rfl ?_
  exact s_aret X hEL (ws' := [b]) (t := (.array .byte)) d64_32 rfl rfl rfl rfl (by decide) (by decide) (by simp) ⟨b, rfl, R_, sz_R__b, A_c, E_b, rfl⟩
theorem d14_0 : decode jdk_68_method_9_code 0 = .ok (.aload_n 0, 1) := by decide +kernel
theorem d14_1 : decode jdk_68_method_9_code 1 = .ok (.getfield 15, 3) := by decide +kernel
theorem d14_4 : decode jdk_68_method_9_code 4 = .ok (.arraylength, 1) := by decide +kernel
theorem d14_5 : decode jdk_68_method_9_code 5 = .ok (.aload_n 0, 1) := by decide +kernel
theorem d14_6 : decode jdk_68_method_9_code 6 = .ok (.getfield 22, 3) := by decide +kernel
theorem d14_9 : decode jdk_68_method_9_code 9 = .ok (.ishr, 1) := by decide +kernel
theorem d14_10 : decode jdk_68_method_9_code 10 = .ok (.istore_n 2, 1) := by decide +kernel
theorem d14_11 : decode jdk_68_method_9_code 11 = .ok (.iload_n 1, 1) := by decide +kernel
theorem d14_12 : decode jdk_68_method_9_code 12 = .ok (.iload_n 2, 1) := by decide +kernel
theorem d14_13 : decode jdk_68_method_9_code 13 = .ok (.isub, 1) := by decide +kernel
theorem d14_14 : decode jdk_68_method_9_code 14 = .ok (.ifCond .le 24, 3) := by decide +kernel
theorem d14_17 : decode jdk_68_method_9_code 17 = .ok (.aload_n 0, 1) := by decide +kernel
theorem d14_18 : decode jdk_68_method_9_code 18 = .ok (.aload_n 0, 1) := by decide +kernel
theorem d14_19 : decode jdk_68_method_9_code 19 = .ok (.getfield 15, 3) := by decide +kernel
theorem d14_22 : decode jdk_68_method_9_code 22 = .ok (.aload_n 0, 1) := by decide +kernel
theorem d14_23 : decode jdk_68_method_9_code 23 = .ok (.iload_n 1, 1) := by decide +kernel
theorem d14_24 : decode jdk_68_method_9_code 24 = .ok (.invokevirtual 104, 3) := by decide +kernel
theorem d14_27 : decode jdk_68_method_9_code 27 = .ok (.aload_n 0, 1) := by decide +kernel
theorem d14_28 : decode jdk_68_method_9_code 28 = .ok (.getfield 22, 3) := by decide +kernel
theorem d14_31 : decode jdk_68_method_9_code 31 = .ok (.ishl, 1) := by decide +kernel
theorem d14_32 : decode jdk_68_method_9_code 32 = .ok (.invokestatic 108, 3) := by decide +kernel
theorem d14_35 : decode jdk_68_method_9_code 35 = .ok (.putfield 15, 3) := by decide +kernel
theorem d14_38 : decode jdk_68_method_9_code 38 = .ok (.return_, 1) := by decide +kernel
theorem ef_sb_ens (m : MethodId) (k : Addr) (nd : Nat) : entryFrame m #[(.ref k), (.int (Int32.ofNat nd))] 3 = mkF m 0 #[.val (.ref k), .val (.int (Int32.ofNat nd)), .unset] [] := by first | (simp [entryFrame, mkF, argsToLocals, Value.category]; done) | rfl
set_option maxRecDepth 65536 in
set_option maxHeartbeats 40000000 in
theorem sb_ens (l : Launch) (Z : State) (a0 : Array Value) (hw : ∀ d ∈ tables_1, d.before a0 Z = true) (hEL : EW Z a0 consts_1) (k : Addr) (nd : Nat) (h : Heap) {t : Addr} {vt : List Value} {cv : Value} (E_k : Exa Z h k "java/lang/StringBuilder") (g_k : Z.heap.size ≤ k) (F_k_value : Fld Z h k "java/lang/AbstractStringBuilder" "value" "[B" (.ref t)) (F_k_coder : Fld Z h k "java/lang/AbstractStringBuilder" "coder" "B" (.int (0 : Int32))) (F_k_count : Fld Z h k "java/lang/AbstractStringBuilder" "count" "I" cv) (A_t : Ary Z h t .byte vt) (E_t : Exa Z h t "[B") (hv : vt.length ≤ 400) (h0 : 0 < vt.length) (hm : nd ≤ 800) (hS : capN vt.length nd ≤ 40) :
    Con l Z consts_1 True (⟨"java/lang/AbstractStringBuilder", "ensureCapacityInternal", "(I)V"⟩ : MethodName) jdk_68_method_9_code 3 none ({ frames := 3, cells := 1, slots := 40, locals := 48 } : Room) [k, t] #[(.ref k), (.int (Int32.ofNat nd))] h (fun v h' ws' => ∃ t' z, v = none ∧ Keep h h' [k] ∧ Fld Z h' k "java/lang/AbstractStringBuilder" "value" "[B" (.ref t') ∧ Fld Z h' k "java/lang/AbstractStringBuilder" "coder" "B" (.int (0 : Int32)) ∧ Fld Z h' k "java/lang/AbstractStringBuilder" "count" "I" cv ∧ (t' = t ∨ h.size ≤ t') ∧ Ary Z h' t' .byte (vt ++ List.replicate z (.int (0 : Int32))) ∧ Exa Z h' t' "[B" ∧ vt.length + z = capN vt.length nd ∧ ws' = [t']) := by
  refine Con.intro own_pn9 (fun p e s m below meth c T X => ?_)
  rw [ef_sb_ens m k nd]
  have K_ : Keep h h [k] := Keep.refl _ _
  refine s_aloadN X (pc' := 1) d14_0 rfl rfl rfl ?_
  refine s_getf X (pc' := 4) d14_1 (hw _ (List.mem_of_getElem? (i := 50) rfl)) Via.refl F_k_value rfl (fun T X => ?_)
  refine s_alen X (pc' := 5) (z := (Int32.ofNat vt.length)) d14_4 A_t (rfl) rfl ?_
  refine s_aloadN X (pc' := 6) d14_5 rfl rfl rfl ?_
  refine s_getf X (pc' := 9) d14_6 (hw _ (List.mem_of_getElem? (i := 52) rfl)) Via.refl F_k_coder rfl (fun T X => ?_)
  refine s_ishr X (pc' := 10) d14_9 rfl ?_
  refine go_int (z := (Int32.ofNat vt.length)) (shr0' _) ?_
  refine s_istoreN X (pc' := 11) (L' := #[.val (.ref k), .val (.int (Int32.ofNat nd)), .val (.int (Int32.ofNat vt.length))]) d14_10 rfl rfl ?_
  refine s_iloadN X (pc' := 12) d14_11 rfl rfl ?_
  refine s_iloadN X (pc' := 13) d14_12 rfl rfl ?_
  refine s_isub X (pc' := 14) d14_13 rfl ?_
  refine s_if X (pc' := 38) (pcF := 17) d14_14 (by decide) (by decide) rfl (fun (q1 : ¬ (0 : Int32) < ((Int32.ofNat nd) - (Int32.ofNat vt.length))) => ?_) (fun (q1 : (0 : Int32) < ((Int32.ofNat nd) - (Int32.ofNat vt.length))) => ?_)
  · have n1 : nd ≤ vt.length := by
      rcases Nat.lt_or_ge vt.length nd with z | z
      · exact absurd ((on_subZ (by omega) (by omega)).mpr z) q1
      · exact z
    exact s_ret X hEL (ws' := [t]) d14_38 (by decide) (by decide) (by simp) ⟨t, 0, rfl, K_, F_k_value, F_k_coder, F_k_count, Or.inl rfl, (by rw [List.replicate_zero, List.append_nil]; exact A_t), E_t, (by rw [capN, if_pos n1]; omega), rfl⟩
  · have n1 : vt.length < nd := (on_subZ (by omega) (by omega)).mp q1
    have hc : capN vt.length nd = max nd (2 * vt.length + 2) := by rw [capN, if_neg (by omega)]
    refine s_aloadN X (pc' := 18) d14_17 rfl rfl rfl ?_
    refine s_aloadN X (pc' := 19) d14_18 rfl rfl rfl ?_
    refine s_getf X (pc' := 22) d14_19 (hw _ (List.mem_of_getElem? (i := 50) rfl)) Via.refl F_k_value rfl (fun T X => ?_)
    refine s_aloadN X (pc' := 23) d14_22 rfl rfl rfl ?_
    refine s_iloadN X (pc' := 24) d14_23 rfl rfl ?_
    refine s_priv X (pc' := 27) (W := 2) (as' := [(.int (Int32.ofNat nd))]) (S := [(.ref t), (.ref k)]) (k' := 0) (n' := 0) d14_24 (hw _ (List.mem_of_getElem? (i := 378) rfl)) (hw _ (List.mem_of_getElem? (i := 380) rfl)) (nfaceC (hw _ (List.mem_of_getElem? (i := 79) rfl)) rfl) (hw _ (List.mem_of_getElem? (i := 379) rfl)) (hw _ (List.mem_of_getElem? (i := 382) rfl)) (by decide) own_pd5 rfl E_k ((sb_nc l Z a0 hw hEL k nd _ F_k_value F_k_coder A_t hv h0 hm n1).payS (by simp) (hw _ (List.mem_of_getElem? (i := 382) rfl)) (hw _ (List.mem_of_getElem? (i := 46) rfl)) hEL (by decide) (by decide)) (Nat.le_of_ble_eq_true rfl) rfl rfl (by decide) (by decide) (by decide) (by decide) rfl (fun T h15 v_ ws_ X hgr_ q16 => ?_)
    obtain ⟨rfl, e_, rfl⟩ := q16
    rw [e_] at X
    show Go p e below _ T (mkF m 27 #[.val (.ref k), .val (.int (Int32.ofNat nd)), .val (.int (Int32.ofNat vt.length))] [(.int (Int32.ofNat (max nd (2 * vt.length + 2)))), (.ref t), (.ref k)])
    replace X := X.sub (ws' := [k, t]) (by simp)
    refine s_aloadN X (pc' := 28) d14_27 rfl rfl rfl ?_
    refine s_getf X (pc' := 31) d14_28 (hw _ (List.mem_of_getElem? (i := 52) rfl)) Via.refl F_k_coder rfl (fun T X => ?_)
    refine s_ishl X (pc' := 32) d14_31 rfl ?_
    refine go_int (z := (Int32.ofNat (max nd (2 * vt.length + 2)))) (shl0 _) ?_
    refine s_static X (pc' := 35) (W := 1) (as' := [(.ref t), (.int (Int32.ofNat (max nd (2 * vt.length + 2))))]) (S := [(.ref k)]) (k' := 1) (n' := 40) d14_32 (hw _ (List.mem_of_getElem? (i := 392) rfl)) (hw _ (List.mem_of_getElem? (i := 393) rfl)) (hw _ (List.mem_of_getElem? (i := 136) rfl)) (hw _ (List.mem_of_getElem? (i := 394) rfl)) (by decide) own_pd6 rfl ((sb_cpy l Z a0 hw hEL t (max nd (2 * vt.length + 2)) _ A_t (by omega) (by omega)).payS (by simp) (hw _ (List.mem_of_getElem? (i := 394) rfl)) (hw _ (List.mem_of_getElem? (i := 136) rfl)) hEL (by decide) (by decide)) (Nat.le_of_ble_eq_true rfl) rfl rfl (by decide) (by decide) (by decide) (by decide) rfl (fun T h17 v_ ws_ X hgr_ q18 => ?_)
    obtain ⟨b, rfl, E_, hzb, A_b, E_b, rfl⟩ := q18
    show Go p e below _ T (mkF m 35 #[.val (.ref k), .val (.int (Int32.ofNat nd)), .val (.int (Int32.ofNat vt.length))] [(.ref b), (.ref k)])
    replace X := X.sub (ws' := [b, k]) (by simp)
    replace E_k := E_k.ext E_
    replace F_k_value := F_k_value.ext E_
    replace F_k_coder := F_k_coder.ext E_
    replace F_k_count := F_k_count.ext E_
    replace K_ := K_.ext E_
    have ne_b_k : b ≠ k := Exa.ne E_b E_k (by decide)
    refine s_putf X (pc' := 38) d14_35 (hw _ (List.mem_of_getElem? (i := 50) rfl)) Via.refl F_k_value E_k (Or.inl (hw _ (List.mem_of_getElem? (i := 51) rfl))) (hw _ (List.mem_of_getElem? (i := 37) rfl)) (ty := (.array .byte)) (by decide) rfl rfl g_k (by simp) rfl (fun T h19 X W20 => ?_)
    replace F_k_value := F_k_value.same W20
    replace F_k_coder := F_k_coder.other W20 (Or.inr (slot_ne (Or.inl (hw _ (List.mem_of_getElem? (i := 53) rfl))) (Or.inl (hw _ (List.mem_of_getElem? (i := 51) rfl))) (t := .byte) (t' := (.array .byte)) (by decide) (by decide) (by decide)))
    replace F_k_count := F_k_count.other W20 (Or.inr (slot_ne (Or.inl (hw _ (List.mem_of_getElem? (i := 75) rfl))) (Or.inl (hw _ (List.mem_of_getElem? (i := 51) rfl))) (t := .int) (t' := (.array .byte)) (by decide) (by decide) (by decide)))
    replace A_b := A_b.other W20 ne_b_k
    replace E_k := E_k.wr W20
    replace E_b := E_b.wr W20
    replace K_ := K_.wr W20 (Or.inl (by simp))
    exact s_ret X hEL (ws' := [b]) d14_38 (by decide) (by decide) (by simp) ⟨b, _, rfl, K_, F_k_value, F_k_coder, F_k_count, Or.inr hzb, A_b, E_b, (by rw [hc]; omega), rfl⟩
theorem d11_0 : decode jdk_68_method_22_code 0 = .ok (.aload_n 1, 1) := by decide +kernel
theorem d11_1 : decode jdk_68_method_22_code 1 = .ok (.ifnonnull 8, 3) := by decide +kernel
theorem d11_9 : decode jdk_68_method_22_code 9 = .ok (.aload_n 1, 1) := by decide +kernel
theorem d11_10 : decode jdk_68_method_22_code 10 = .ok (.invokevirtual 32, 3) := by decide +kernel
theorem d11_13 : decode jdk_68_method_22_code 13 = .ok (.istore_n 2, 1) := by decide +kernel
theorem d11_14 : decode jdk_68_method_22_code 14 = .ok (.aload_n 0, 1) := by decide +kernel
theorem d11_15 : decode jdk_68_method_22_code 15 = .ok (.aload_n 0, 1) := by decide +kernel
theorem d11_16 : decode jdk_68_method_22_code 16 = .ok (.getfield 79, 3) := by decide +kernel
theorem d11_19 : decode jdk_68_method_22_code 19 = .ok (.iload_n 2, 1) := by decide +kernel
theorem d11_20 : decode jdk_68_method_22_code 20 = .ok (.iadd, 1) := by decide +kernel
theorem d11_21 : decode jdk_68_method_22_code 21 = .ok (.invokevirtual 100, 3) := by decide +kernel
theorem d11_24 : decode jdk_68_method_22_code 24 = .ok (.aload_n 0, 1) := by decide +kernel
theorem d11_25 : decode jdk_68_method_22_code 25 = .ok (.aload_n 0, 1) := by decide +kernel
theorem d11_26 : decode jdk_68_method_22_code 26 = .ok (.getfield 79, 3) := by decide +kernel
theorem d11_29 : decode jdk_68_method_22_code 29 = .ok (.aload_n 1, 1) := by decide +kernel
theorem d11_30 : decode jdk_68_method_22_code 30 = .ok (.invokevirtual 208, 3) := by decide +kernel
theorem d11_33 : decode jdk_68_method_22_code 33 = .ok (.aload_n 0, 1) := by decide +kernel
theorem d11_34 : decode jdk_68_method_22_code 34 = .ok (.dup, 1) := by decide +kernel
theorem d11_35 : decode jdk_68_method_22_code 35 = .ok (.getfield 79, 3) := by decide +kernel
theorem d11_38 : decode jdk_68_method_22_code 38 = .ok (.iload_n 2, 1) := by decide +kernel
theorem d11_39 : decode jdk_68_method_22_code 39 = .ok (.iadd, 1) := by decide +kernel
theorem d11_40 : decode jdk_68_method_22_code 40 = .ok (.putfield 79, 3) := by decide +kernel
theorem d11_43 : decode jdk_68_method_22_code 43 = .ok (.aload_n 0, 1) := by decide +kernel
theorem d11_44 : decode jdk_68_method_22_code 44 = .ok (.areturn, 1) := by decide +kernel
theorem ef_sb_app (m : MethodId) (k x : Addr) : entryFrame m #[(.ref k), (.ref x)] 3 = mkF m 0 #[.val (.ref k), .val (.ref x), .unset] [] := by first | (simp [entryFrame, mkF, argsToLocals, Value.category]; done) | rfl
set_option maxRecDepth 65536 in
set_option maxHeartbeats 40000000 in
theorem sb_app (l : Launch) (Z : State) (a0 : Array Value) (hw : ∀ d ∈ tables_1, d.before a0 Z = true) (hEL : EW Z a0 consts_1) (k x : Addr) (h : Heap) {t tx : Addr} {cs ds : List Int32} {r : List Value} {G1 : Int32} (S_k : SBD Z h k t ds r) (E_x : Exa Z h x "java/lang/String") (F_x_value : Fld Z h x "java/lang/String" "value" "[B" (.ref tx)) (F_x_coder : Fld Z h x "java/lang/String" "coder" "B" (.int (0 : Int32))) (A_tx : Ary Z h tx .byte (bys cs)) (hcs : Lat cs) (hcl : cs.length ≤ 4000) (hv : ds.length + r.length ≤ 400) (h0 : 0 < ds.length + r.length) (hcs4 : cs.length ≤ 400) (hS : capN (ds.length + r.length) (ds.length + cs.length) ≤ 40) (g_k : Z.heap.size ≤ k) (g_t : Z.heap.size ≤ t) (ne_tx_t : tx ≠ t) (O2 : Sta Z Z.heap "java/lang/String" "COMPACT_STRINGS" "Z" (.int G1)) (P5 : ¬ (G1 = (0 : Int32))) :
    Con l Z consts_1 True (⟨"java/lang/AbstractStringBuilder", "append", "(Ljava/lang/String;)Ljava/lang/AbstractStringBuilder;"⟩ : MethodName) jdk_68_method_22_code 3 (some (.object "java/lang/AbstractStringBuilder")) ({ frames := 4, cells := 1, slots := 40, locals := 62 } : Room) [k, t] #[(.ref k), (.ref x)] h (fun v h' ws' => ∃ t' r', v = some (.ref k) ∧ Keep h h' [k, t] ∧ (t' = t ∨ h.size ≤ t') ∧ SBD Z h' k t' (ds ++ cs) r' ∧ ds.length + cs.length + r'.length = capN (ds.length + r.length) (ds.length + cs.length) ∧ ws' = [t']) := by
  refine Con.intro own_pn10 (fun p e s m below meth c T X => ?_)
  rw [ef_sb_app m k x]
  obtain ⟨E_k, F_k_value, F_k_coder, F_k_count, A_t, E_t⟩ := S_k
  have hvt : (bys ds ++ r).length = ds.length + r.length := by rw [List.length_append, bys_len]
  have S_x : Str Z h x cs := Str.ofLatin E_x F_x_value F_x_coder A_tx hcs hcl
  have hz0 := X.old.1
  refine s_aloadN X (pc' := 1) d11_0 rfl rfl rfl ?_
  refine s_ifnonnullT X (pc' := 9) d11_1 (by decide) (by decide) ?_
  refine s_aloadN X (pc' := 10) d11_9 rfl rfl rfl ?_
  refine s_virtual X (pc' := 13) (W := 0) (as' := []) (S := []) (k' := 0) (n' := 0) d11_10 (hw _ (List.mem_of_getElem? (i := 64) rfl)) (hw _ (List.mem_of_getElem? (i := 65) rfl)) (hw _ (List.mem_of_getElem? (i := 67) rfl)) (hw _ (List.mem_of_getElem? (i := 66) rfl)) (nface (hw _ (List.mem_of_getElem? (i := 67) rfl))) (by decide) own_pd7 rfl E_x (lenPay hw hEL O2 P5 X.old S_x (by decide) (by decide)) (Nat.le_of_ble_eq_true rfl) rfl rfl (by decide) (by decide) (by decide) (by decide) rfl (fun T h21 v_ ws_ X hgr_ q22 => ?_)
  obtain ⟨rfl, e_, rfl⟩ := q22
  rw [e_] at X
  show Go p e below _ T (mkF m 13 #[.val (.ref k), .val (.ref x), .unset] [(.int (Int32.ofNat cs.length))])
  replace X := X.sub (ws' := [k, t]) (by simp)
  refine s_istoreN X (pc' := 14) (L' := #[.val (.ref k), .val (.ref x), .val (.int (Int32.ofNat cs.length))]) d11_13 rfl rfl ?_
  refine s_aloadN X (pc' := 15) d11_14 rfl rfl rfl ?_
  refine s_aloadN X (pc' := 16) d11_15 rfl rfl rfl ?_
  refine s_getf X (pc' := 19) d11_16 (hw _ (List.mem_of_getElem? (i := 74) rfl)) Via.refl F_k_count rfl (fun T X => ?_)
  refine s_iloadN X (pc' := 20) d11_19 rfl rfl ?_
  refine s_iadd X (pc' := 21) d11_20 rfl ?_
  refine go_int (z := (Int32.ofNat (ds.length + cs.length))) (on_add _ _) ?_
  have ne_tx_k : tx ≠ k := by obtain ⟨kc, q⟩ := A_tx.arv .null; exact (Exa.neArv E_k q (hw _ (List.mem_of_getElem? (i := 37) rfl))).symm
  have htx := A_tx.lt
  refine s_priv X (pc' := 24) (W := 0) (as' := [(.int (Int32.ofNat (ds.length + cs.length)))]) (S := []) (k' := 1) (n' := 40) d11_21 (hw _ (List.mem_of_getElem? (i := 76) rfl)) (hw _ (List.mem_of_getElem? (i := 78) rfl)) (nfaceC (hw _ (List.mem_of_getElem? (i := 79) rfl)) rfl) (hw _ (List.mem_of_getElem? (i := 77) rfl)) (hw _ (List.mem_of_getElem? (i := 80) rfl)) (by decide) own_pd8 rfl E_k ((sb_ens l Z a0 hw hEL k (ds.length + cs.length) _ E_k g_k F_k_value F_k_coder F_k_count A_t E_t (by rw [hvt]; exact hv) (by rw [hvt]; exact h0) (by omega) (by rw [hvt]; exact hS)).payS (by simp) (hw _ (List.mem_of_getElem? (i := 80) rfl)) (hw _ (List.mem_of_getElem? (i := 46) rfl)) hEL (by decide) (by decide)) (Nat.le_of_ble_eq_true rfl) rfl rfl (by decide) (by decide) (by decide) (by decide) rfl (fun T h23 v_ ws_ X hgr_ q24 => ?_)
  obtain ⟨t', z, rfl, K0_, G1_, G2_, G3_, hT, A_u, E_u, hzc, rfl⟩ := q24
  show Go p e below _ T (mkF m 24 #[.val (.ref k), .val (.ref x), .val (.int (Int32.ofNat cs.length))] [])
  replace X := X.sub (ws' := [t', k, t]) (by simp)
  replace F_x_value := F_x_value.keep K0_ (ninS (Exa.ne E_x E_k (by decide)) nin0)
  replace F_x_coder := F_x_coder.keep K0_ (ninS (Exa.ne E_x E_k (by decide)) nin0)
  replace A_tx := A_tx.keep K0_ (ninS ne_tx_k nin0)
  replace E_k := E_k.keep K0_
  replace E_x := E_x.keep K0_
  rw [hvt] at hzc
  have F_k_value := G1_
  have F_k_coder := G2_
  have F_k_count := G3_
  have g_u : Z.heap.size ≤ t' := hT.elim (fun q => by rw [q]; exact g_t) (fun q => Nat.le_trans hz0 q)
  have ne_tx_u : tx ≠ t' := hT.elim (fun q => by rw [q]; exact ne_tx_t) (fun q => Nat.ne_of_lt (Nat.lt_of_lt_of_le htx q))
  have ne_u_k : t' ≠ k := Exa.ne E_u E_k (by decide)
  have hul : (bys ds ++ r ++ List.replicate z (Value.int (0 : Int32))).length = ds.length + r.length + z := by rw [List.length_append, hvt, List.length_replicate]
  have hneed : ds.length + cs.length ≤ ds.length + r.length + z := by
    rw [hzc, capN]; split <;> omega
  refine s_aloadN X (pc' := 25) d11_24 rfl rfl rfl ?_
  refine s_aloadN X (pc' := 26) d11_25 rfl rfl rfl ?_
  refine s_getf X (pc' := 29) d11_26 (hw _ (List.mem_of_getElem? (i := 74) rfl)) Via.refl F_k_count rfl (fun T X => ?_)
  refine s_aloadN X (pc' := 30) d11_29 rfl rfl rfl ?_
  refine s_priv X (pc' := 33) (W := 0) (as' := [(.int (Int32.ofNat ds.length)), (.ref x)]) (S := []) (k' := 1) (n' := 40) d11_30 (hw _ (List.mem_of_getElem? (i := 81) rfl)) (hw _ (List.mem_of_getElem? (i := 83) rfl)) (nfaceC (hw _ (List.mem_of_getElem? (i := 79) rfl)) rfl) (hw _ (List.mem_of_getElem? (i := 82) rfl)) (hw _ (List.mem_of_getElem? (i := 85) rfl)) (by decide) own_pd9 rfl E_k ((sb_psa l Z a0 hw hEL k x ds.length _ E_k F_k_value F_k_coder E_x F_x_value F_x_coder A_tx hcs hcl A_u (by rw [hul]; exact hneed) g_u O2 P5).payS (by simp) (hw _ (List.mem_of_getElem? (i := 85) rfl)) (hw _ (List.mem_of_getElem? (i := 46) rfl)) hEL (by decide) (by decide)) (Nat.le_of_ble_eq_true rfl) rfl rfl (by decide) (by decide) (by decide) (by decide) rfl (fun T h25 v_ ws_ X hgr_ q26 => ?_)
  obtain ⟨rfl, K1_, A_v, rfl⟩ := q26
  show Go p e below _ T (mkF m 33 #[.val (.ref k), .val (.ref x), .val (.int (Int32.ofNat cs.length))] [])
  replace X := X.sub (ws' := [t', k]) (by simp)
  have ne_k_t' := ne_u_k.symm
  replace E_u := E_u.keep K1_
  replace F_k_value := F_k_value.keep K1_ (ninS ne_k_t' nin0)
  replace F_k_coder := F_k_coder.keep K1_ (ninS ne_k_t' nin0)
  replace F_k_count := F_k_count.keep K1_ (ninS ne_k_t' nin0)
  replace E_k := E_k.keep K1_
  have K_ : Keep h h25 [k, t] := (Keep.refl h [k, t]).trans K0_ (allS (Or.inl (by simp)) all0) |>.trans K1_ (allS (hT.elim (fun q => Or.inl (by rw [q]; simp)) Or.inr) all0)
  have A_t' := A_v
  have ne_t'_k := ne_u_k
  refine s_aloadN X (pc' := 34) d11_33 rfl rfl rfl ?_
  refine s_dup X (pc' := 35) d11_34 rfl rfl ?_
  refine s_getf X (pc' := 38) d11_35 (hw _ (List.mem_of_getElem? (i := 74) rfl)) Via.refl F_k_count rfl (fun T X => ?_)
  refine s_iloadN X (pc' := 39) d11_38 rfl rfl ?_
  refine s_iadd X (pc' := 40) d11_39 rfl ?_
  refine go_int (z := (Int32.ofNat (ds.length + cs.length))) (on_add _ _) ?_
  have E_t' := E_u
  refine s_putf X (pc' := 43) d11_40 (hw _ (List.mem_of_getElem? (i := 74) rfl)) Via.refl F_k_count E_k (Or.inl (hw _ (List.mem_of_getElem? (i := 75) rfl))) (hw _ (List.mem_of_getElem? (i := 37) rfl)) (ty := .int) (by decide) rfl rfl g_k (by simp) rfl (fun T h27 X W28 => ?_)
  replace F_k_value := F_k_value.other W28 (Or.inr (slot_ne (Or.inl (hw _ (List.mem_of_getElem? (i := 51) rfl))) (Or.inl (hw _ (List.mem_of_getElem? (i := 75) rfl))) (t := (.array .byte)) (t' := .int) (by decide) (by decide) (by decide)))
  replace F_k_coder := F_k_coder.other W28 (Or.inr (slot_ne (Or.inl (hw _ (List.mem_of_getElem? (i := 53) rfl))) (Or.inl (hw _ (List.mem_of_getElem? (i := 75) rfl))) (t := .byte) (t' := .int) (by decide) (by decide) (by decide)))
  replace F_k_count := F_k_count.same W28
  replace A_t' := A_t'.other W28 ne_t'_k
  replace E_k := E_k.wr W28
  replace E_t' := E_t'.wr W28
  replace K_ := K_.wr W28 (Or.inl (by simp))
  refine s_aloadN X (pc' := 44) d11_43 rfl rfl rfl ?_
  exact s_aret X hEL (ws' := [t']) (t := (.object "java/lang/AbstractStringBuilder")) d11_44 rfl rfl rfl rfl (by decide) (by decide) (by simp) ⟨t', (r ++ List.replicate z (Value.int (0 : Int32))).drop cs.length, rfl, K_, hT, ⟨E_k, F_k_value, F_k_coder, (by rw [List.length_append]; exact F_k_count), (by
      have q1 : (bys ds ++ r ++ List.replicate z (Value.int (0 : Int32))).take ds.length = bys ds := by rw [List.append_assoc, ← bys_len ds]; exact List.take_left
      have q2 : (bys ds ++ r ++ List.replicate z (Value.int (0 : Int32))).drop (ds.length + cs.length) = (r ++ List.replicate z (Value.int (0 : Int32))).drop cs.length := by rw [List.append_assoc, ← List.drop_drop, ← bys_len ds, List.drop_left]
      rw [q1, q2, ← bys_app] at A_t'; exact A_t'), E_t'⟩, (by rw [List.length_drop, List.length_append, List.length_replicate]; omega), rfl⟩
theorem d10_0 : decode jdk_67_method_7_code 0 = .ok (.aload_n 0, 1) := by decide +kernel
theorem d10_1 : decode jdk_67_method_7_code 1 = .ok (.aload_n 1, 1) := by decide +kernel
theorem d10_2 : decode jdk_67_method_7_code 2 = .ok (.invokespecial 29, 3) := by decide +kernel
theorem d10_5 : decode jdk_67_method_7_code 5 = .ok (.pop, 1) := by decide +kernel
theorem d10_6 : decode jdk_67_method_7_code 6 = .ok (.aload_n 0, 1) := by decide +kernel
theorem d10_7 : decode jdk_67_method_7_code 7 = .ok (.areturn, 1) := by decide +kernel
theorem ef_sb_sapp (m : MethodId) (k x : Addr) : entryFrame m #[(.ref k), (.ref x)] 2 = mkF m 0 #[.val (.ref k), .val (.ref x)] [] := by first | (simp [entryFrame, mkF, argsToLocals, Value.category]; done) | rfl
set_option maxRecDepth 65536 in
set_option maxHeartbeats 40000000 in
theorem sb_sapp (l : Launch) (Z : State) (a0 : Array Value) (hw : ∀ d ∈ tables_1, d.before a0 Z = true) (hEL : EW Z a0 consts_1) (k x : Addr) (h : Heap) {t tx : Addr} {cs ds : List Int32} {r : List Value} {G1 : Int32} (S_k : SBD Z h k t ds r) (E_x : Exa Z h x "java/lang/String") (F_x_value : Fld Z h x "java/lang/String" "value" "[B" (.ref tx)) (F_x_coder : Fld Z h x "java/lang/String" "coder" "B" (.int (0 : Int32))) (A_tx : Ary Z h tx .byte (bys cs)) (hcs : Lat cs) (hcl : cs.length ≤ 4000) (hv : ds.length + r.length ≤ 400) (h0 : 0 < ds.length + r.length) (hcs4 : cs.length ≤ 400) (hS : capN (ds.length + r.length) (ds.length + cs.length) ≤ 40) (g_k : Z.heap.size ≤ k) (g_t : Z.heap.size ≤ t) (ne_tx_t : tx ≠ t) (O2 : Sta Z Z.heap "java/lang/String" "COMPACT_STRINGS" "Z" (.int G1)) (P5 : ¬ (G1 = (0 : Int32))) :
    Con l Z consts_1 True (⟨"java/lang/StringBuilder", "append", "(Ljava/lang/String;)Ljava/lang/StringBuilder;"⟩ : MethodName) jdk_67_method_7_code 2 (some (.object "java/lang/StringBuilder")) ({ frames := 5, cells := 1, slots := 40, locals := 76 } : Room) [k, t] #[(.ref k), (.ref x)] h (fun v h' ws' => ∃ t' r', v = some (.ref k) ∧ Keep h h' [k, t] ∧ (t' = t ∨ h.size ≤ t') ∧ SBD Z h' k t' (ds ++ cs) r' ∧ ds.length + cs.length + r'.length = capN (ds.length + r.length) (ds.length + cs.length) ∧ ws' = [t']) := by
  refine Con.intro own_pn11 (fun p e s m below meth c T X => ?_)
  rw [ef_sb_sapp m k x]
  have E_k := S_k.1
  refine s_aloadN X (pc' := 1) d10_0 rfl rfl rfl ?_
  refine s_aloadN X (pc' := 2) d10_1 rfl rfl rfl ?_
  refine s_super X (pc' := 5) (W := 0) (as' := [(.ref x)]) (S := []) (k' := 1) (n' := 40) d10_2 (hw _ (List.mem_of_getElem? (i := 59) rfl)) (same_of (hw _ (List.mem_of_getElem? (i := 62) rfl)) (hw _ (List.mem_of_getElem? (i := 79) rfl)) rfl (by decide)) (hw _ (List.mem_of_getElem? (i := 60) rfl)) (hw _ (List.mem_of_getElem? (i := 61) rfl)) (hw _ (List.mem_of_getElem? (i := 63) rfl)) (by decide) own_pd10 rfl (Ins.self E_k) ((sb_app l Z a0 hw hEL k x _ S_k E_x F_x_value F_x_coder A_tx hcs hcl hv h0 hcs4 hS g_k g_t ne_tx_t O2 P5).payS (by simp) (hw _ (List.mem_of_getElem? (i := 63) rfl)) (hw _ (List.mem_of_getElem? (i := 46) rfl)) hEL (by decide) (by decide)) (Nat.le_of_ble_eq_true rfl) rfl rfl (by decide) (by decide) (by decide) (by decide) rfl (fun T h29 v_ ws_ X hgr_ q30 => ?_)
  obtain ⟨t', r', rfl, K_, hT, S_k', hr', rfl⟩ := q30
  show Go p e below _ T (mkF m 5 #[.val (.ref k), .val (.ref x)] [(.ref k)])
  replace X := X.sub (ws' := [t']) (by simp)
  refine s_pop X (pc' := 6) d10_5 rfl rfl ?_
  refine s_aloadN X (pc' := 7) d10_6 rfl rfl rfl ?_
  exact s_aret X hEL (ws' := [t']) (t := (.object "java/lang/StringBuilder")) d10_7 rfl rfl rfl rfl (by decide) (by decide) (by simp) ⟨t', r', rfl, K_, hT, S_k', hr', rfl⟩
theorem d9_0 : decode jdk_68_method_2_code 0 = .ok (.aload_n 0, 1) := by decide +kernel
theorem d9_1 : decode jdk_68_method_2_code 1 = .ok (.invokespecial 3, 3) := by decide +kernel
theorem d9_4 : decode jdk_68_method_2_code 4 = .ok (.getstatic 18, 3) := by decide +kernel
theorem d9_7 : decode jdk_68_method_2_code 7 = .ok (.ifCond .eq 18, 3) := by decide +kernel
theorem d9_10 : decode jdk_68_method_2_code 10 = .ok (.aload_n 0, 1) := by decide +kernel
theorem d9_11 : decode jdk_68_method_2_code 11 = .ok (.iload_n 1, 1) := by decide +kernel
theorem d9_12 : decode jdk_68_method_2_code 12 = .ok (.newarray .byte, 2) := by decide +kernel
theorem d9_14 : decode jdk_68_method_2_code 14 = .ok (.putfield 15, 3) := by decide +kernel
theorem d9_17 : decode jdk_68_method_2_code 17 = .ok (.aload_n 0, 1) := by decide +kernel
theorem d9_18 : decode jdk_68_method_2_code 18 = .ok (.iconst 0, 1) := by decide +kernel
theorem d9_19 : decode jdk_68_method_2_code 19 = .ok (.putfield 22, 3) := by decide +kernel
theorem d9_22 : decode jdk_68_method_2_code 22 = .ok (.goto 16, 3) := by decide +kernel
theorem d9_38 : decode jdk_68_method_2_code 38 = .ok (.return_, 1) := by decide +kernel
theorem d8_0 : decode jdk_67_method_1_code 0 = .ok (.aload_n 0, 1) := by decide +kernel
theorem d8_1 : decode jdk_67_method_1_code 1 = .ok (.bipush 16, 2) := by decide +kernel
theorem d8_3 : decode jdk_67_method_1_code 3 = .ok (.invokespecial 1, 3) := by decide +kernel
theorem d8_6 : decode jdk_67_method_1_code 6 = .ok (.return_, 1) := by decide +kernel
theorem ef_sb_aini (m : MethodId) (k : Addr) : entryFrame m #[(.ref k), (.int (16 : Int32))] 2 = mkF m 0 #[.val (.ref k), .val (.int (16 : Int32))] [] := by first | (simp [entryFrame, mkF, argsToLocals, Value.category]; done) | rfl
set_option maxRecDepth 65536 in
set_option maxHeartbeats 40000000 in
theorem sb_aini (l : Launch) (Z : State) (a0 : Array Value) (hw : ∀ d ∈ tables_1, d.before a0 Z = true) (hEL : EW Z a0 consts_1) (k : Addr) (h : Heap) {G1 : Int32} (g_k : Z.heap.size ≤ k) (E_k : Exa Z h k "java/lang/StringBuilder") (F_k_value : Fld Z h k "java/lang/AbstractStringBuilder" "value" "[B" .null) (F_k_coder : Fld Z h k "java/lang/AbstractStringBuilder" "coder" "B" (.int (0 : Int32))) (F_k_count : Fld Z h k "java/lang/AbstractStringBuilder" "count" "I" (.int (0 : Int32))) (O2 : Sta Z Z.heap "java/lang/String" "COMPACT_STRINGS" "Z" (.int G1)) (P5 : ¬ (G1 = (0 : Int32))) :
    Con l Z consts_1 True (⟨"java/lang/AbstractStringBuilder", "<init>", "(I)V"⟩ : MethodName) jdk_68_method_2_code 2 none ({ frames := 1, cells := 1, slots := 16, locals := 12 } : Room) [k] #[(.ref k), (.int (16 : Int32))] h (fun v h' ws' => v = none ∧ Keep h h' [k] ∧ (∃ t, h.size ≤ t ∧ SBD Z h' k t [] (List.replicate 16 (.int (0 : Int32))) ∧ ws' = [t])) := by
  refine Con.intro own_pn12 (fun p e s m below meth c T X => ?_)
  rw [ef_sb_aini m k]
  have K_ : Keep h h [k] := Keep.refl _ _
  refine s_aloadN X (pc' := 1) d9_0 rfl rfl rfl ?_
  refine s_initO X (pc' := 4) (W := 0) d9_1 (hw _ (List.mem_of_getElem? (i := 48) rfl)) (hw _ (List.mem_of_getElem? (i := 12) rfl)) (b' := object_method_1_code) rfl (hw _ (List.mem_of_getElem? (i := 13) rfl)) (Nat.le_of_ble_eq_true rfl) (by decide) (by decide) rfl rfl (fun T X => ?_)
  refine s_gets X (pc' := 7) d9_4 (hw _ (List.mem_of_getElem? (i := 49) rfl)) Via.refl O2 rfl (fun T X => ?_)
  refine s_ifF X (pc' := 10) d9_7 P5 rfl ?_
  refine s_aloadN X (pc' := 11) d9_10 rfl rfl rfl ?_
  refine s_iloadN X (pc' := 12) d9_11 rfl rfl ?_
  refine s_newarrE X (pc' := 14) (k' := 1) (n' := 16) (N := 16) (ad := "[B") d9_12 (hw _ (List.mem_of_getElem? (i := 19) rfl)) rfl (by decide) (by decide) (by decide) (by decide) (by decide) (by decide) rfl (fun T h1 t gb_t X' E1 A_t E_t => ?_)
  have ne_k_t : k ≠ t := Nat.ne_of_lt (by rw [gb_t]; exact E_k.lt)
  have sz_K__t : h.size ≤ t := by rw [gb_t]; exact K_.1
  replace E_k := E_k.ext E1
  replace F_k_value := F_k_value.ext E1
  replace F_k_coder := F_k_coder.ext E1
  replace F_k_count := F_k_count.ext E1
  replace K_ := K_.ext E1
  replace X := X'
  have ne_t_k := ne_k_t.symm
  refine s_putf X (pc' := 17) d9_14 (hw _ (List.mem_of_getElem? (i := 50) rfl)) Via.refl F_k_value E_k (Or.inl (hw _ (List.mem_of_getElem? (i := 51) rfl))) (hw _ (List.mem_of_getElem? (i := 37) rfl)) (ty := (.array .byte)) (by decide) rfl rfl g_k (by simp) rfl (fun T h31 X W32 => ?_)
  replace F_k_value := F_k_value.same W32
  replace F_k_coder := F_k_coder.other W32 (Or.inr (slot_ne (Or.inl (hw _ (List.mem_of_getElem? (i := 53) rfl))) (Or.inl (hw _ (List.mem_of_getElem? (i := 51) rfl))) (t := .byte) (t' := (.array .byte)) (by decide) (by decide) (by decide)))
  replace F_k_count := F_k_count.other W32 (Or.inr (slot_ne (Or.inl (hw _ (List.mem_of_getElem? (i := 75) rfl))) (Or.inl (hw _ (List.mem_of_getElem? (i := 51) rfl))) (t := .int) (t' := (.array .byte)) (by decide) (by decide) (by decide)))
  replace A_t := A_t.other W32 ne_t_k
  replace E_k := E_k.wr W32
  replace E_t := E_t.wr W32
  replace K_ := K_.wr W32 (Or.inl (by simp))
  refine s_aloadN X (pc' := 18) d9_17 rfl rfl rfl ?_
  refine s_iconst X (pc' := 19) d9_18 (v := (0 : Int32)) rfl rfl ?_
  refine s_putf X (pc' := 22) d9_19 (hw _ (List.mem_of_getElem? (i := 52) rfl)) Via.refl F_k_coder E_k (Or.inl (hw _ (List.mem_of_getElem? (i := 53) rfl))) (hw _ (List.mem_of_getElem? (i := 37) rfl)) (ty := .byte) (by decide) rfl rfl g_k (by simp) rfl (fun T h33 X W34 => ?_)
  replace F_k_value := F_k_value.other W34 (Or.inr (slot_ne (Or.inl (hw _ (List.mem_of_getElem? (i := 51) rfl))) (Or.inl (hw _ (List.mem_of_getElem? (i := 53) rfl))) (t := (.array .byte)) (t' := .byte) (by decide) (by decide) (by decide)))
  replace F_k_coder := F_k_coder.same W34
  replace F_k_count := F_k_count.other W34 (Or.inr (slot_ne (Or.inl (hw _ (List.mem_of_getElem? (i := 75) rfl))) (Or.inl (hw _ (List.mem_of_getElem? (i := 53) rfl))) (t := .int) (t' := .byte) (by decide) (by decide) (by decide)))
  replace A_t := A_t.other W34 ne_t_k
  replace E_k := E_k.wr W34
  replace E_t := E_t.wr W34
  replace K_ := K_.wr W34 (Or.inl (by simp))
  refine s_goto X (pc' := 38) d9_22 (by decide) (by decide) ?_
  exact s_ret X hEL (ws' := [t]) d9_38 (by decide) (by decide) (by simp) ⟨rfl, K_, ⟨t, sz_K__t, ⟨E_k, F_k_value, F_k_coder, F_k_count, A_t, E_t⟩, rfl⟩⟩
theorem ef_sb_ini (m : MethodId) (k : Addr) : entryFrame m #[(.ref k)] 1 = mkF m 0 #[.val (.ref k)] [] := by first | (simp [entryFrame, mkF, argsToLocals, Value.category]; done) | rfl
set_option maxRecDepth 65536 in
set_option maxHeartbeats 40000000 in
theorem sb_ini (l : Launch) (Z : State) (a0 : Array Value) (hw : ∀ d ∈ tables_1, d.before a0 Z = true) (hEL : EW Z a0 consts_1) (k : Addr) (h : Heap) {G1 : Int32} (g_k : Z.heap.size ≤ k) (E_k : Exa Z h k "java/lang/StringBuilder") (F_k_value : Fld Z h k "java/lang/AbstractStringBuilder" "value" "[B" .null) (F_k_coder : Fld Z h k "java/lang/AbstractStringBuilder" "coder" "B" (.int (0 : Int32))) (F_k_count : Fld Z h k "java/lang/AbstractStringBuilder" "count" "I" (.int (0 : Int32))) (O2 : Sta Z Z.heap "java/lang/String" "COMPACT_STRINGS" "Z" (.int G1)) (P5 : ¬ (G1 = (0 : Int32))) :
    Con l Z consts_1 True (⟨"java/lang/StringBuilder", "<init>", "()V"⟩ : MethodName) jdk_67_method_1_code 1 none ({ frames := 2, cells := 1, slots := 16, locals := 25 } : Room) [k] #[(.ref k)] h (fun v h' ws' => v = none ∧ Keep h h' [k] ∧ (∃ t, h.size ≤ t ∧ SBD Z h' k t [] (List.replicate 16 (.int (0 : Int32))) ∧ ws' = [t])) := by
  refine Con.intro own_pn13 (fun p e s m below meth c T X => ?_)
  rw [ef_sb_ini m k]
  refine s_aloadN X (pc' := 1) d8_0 rfl rfl rfl ?_
  refine s_bipush X (pc' := 3) d8_1 (v := (16 : Int32)) (by decide) rfl ?_
  refine s_special X (pc' := 6) (W := 0) (as' := [(.int (16 : Int32))]) (S := []) (k' := 1) (n' := 16) d8_3 rfl (hw _ (List.mem_of_getElem? (i := 42) rfl)) (hw _ (List.mem_of_getElem? (i := 43) rfl)) (hw _ (List.mem_of_getElem? (i := 47) rfl)) (by decide) own_pd8 rfl ((sb_aini l Z a0 hw hEL k _ g_k E_k F_k_value F_k_coder F_k_count O2 P5).payS (by simp) (hw _ (List.mem_of_getElem? (i := 47) rfl)) (hw _ (List.mem_of_getElem? (i := 46) rfl)) hEL (by decide) (by decide)) (Nat.le_of_ble_eq_true rfl) rfl rfl (by decide) (by decide) (by decide) (by decide) rfl (fun T h35 v_ ws_ X hgr_ q36 => ?_)
  obtain ⟨rfl, K_, ⟨t, hzt, S_k, rfl⟩⟩ := q36
  show Go p e below _ T (mkF m 6 #[.val (.ref k)] [])
  replace X := X.sub (ws' := [t, k]) (by simp)
  exact s_ret X hEL (ws' := [t]) d8_6 (by decide) (by decide) (by simp) ⟨rfl, K_, ⟨t, hzt, S_k, rfl⟩⟩
theorem d27_0 : decode jdk_65_method_131_code 0 = .ok (.iload_n 1, 1) := by decide +kernel
theorem d27_1 : decode jdk_65_method_131_code 1 = .ok (.iload_n 0, 1) := by decide +kernel
theorem d27_2 : decode jdk_65_method_131_code 2 = .ok (.if_icmp .ge 35, 3) := by decide +kernel
theorem d27_37 : decode jdk_65_method_131_code 37 = .ok (.return_, 1) := by decide +kernel
theorem d26_0 : decode jdk_65_method_133_code 0 = .ok (.iload_n 1, 1) := by decide +kernel
theorem d26_1 : decode jdk_65_method_133_code 1 = .ok (.iload_n 2, 1) := by decide +kernel
theorem d26_2 : decode jdk_65_method_133_code 2 = .ok (.invokestatic 343, 3) := by decide +kernel
theorem d26_5 : decode jdk_65_method_133_code 5 = .ok (.iload_n 2, 1) := by decide +kernel
theorem d26_6 : decode jdk_65_method_133_code 6 = .ok (.iload_n 1, 1) := by decide +kernel
theorem d26_7 : decode jdk_65_method_133_code 7 = .ok (.isub, 1) := by decide +kernel
theorem d26_8 : decode jdk_65_method_133_code 8 = .ok (.istore_n 3, 1) := by decide +kernel
theorem d26_9 : decode jdk_65_method_133_code 9 = .ok (.iload_n 3, 1) := by decide +kernel
theorem d26_10 : decode jdk_65_method_133_code 10 = .ok (.newarray .byte, 2) := by decide +kernel
theorem d26_12 : decode jdk_65_method_133_code 12 = .ok (.astore 4, 2) := by decide +kernel
theorem d26_14 : decode jdk_65_method_133_code 14 = .ok (.aload_n 0, 1) := by decide +kernel
theorem d26_15 : decode jdk_65_method_133_code 15 = .ok (.iload_n 1, 1) := by decide +kernel
theorem d26_16 : decode jdk_65_method_133_code 16 = .ok (.aload 4, 2) := by decide +kernel
theorem d26_18 : decode jdk_65_method_133_code 18 = .ok (.iconst 0, 1) := by decide +kernel
theorem d26_19 : decode jdk_65_method_133_code 19 = .ok (.aload_n 0, 1) := by decide +kernel
theorem d26_20 : decode jdk_65_method_133_code 20 = .ok (.arraylength, 1) := by decide +kernel
theorem d26_21 : decode jdk_65_method_133_code 21 = .ok (.iload_n 1, 1) := by decide +kernel
theorem d26_22 : decode jdk_65_method_133_code 22 = .ok (.isub, 1) := by decide +kernel
theorem d26_23 : decode jdk_65_method_133_code 23 = .ok (.iload_n 3, 1) := by decide +kernel
theorem d26_24 : decode jdk_65_method_133_code 24 = .ok (.invokestatic 304, 3) := by decide +kernel
theorem d26_27 : decode jdk_65_method_133_code 27 = .ok (.invokestatic 150, 3) := by decide +kernel
theorem d26_30 : decode jdk_65_method_133_code 30 = .ok (.aload 4, 2) := by decide +kernel
theorem d26_32 : decode jdk_65_method_133_code 32 = .ok (.areturn, 1) := by decide +kernel
theorem d25_0 : decode jdk_65_method_132_code 0 = .ok (.iload_n 1, 1) := by decide +kernel
theorem d25_1 : decode jdk_65_method_132_code 1 = .ok (.ifCond .ne 9, 3) := by decide +kernel
theorem d25_4 : decode jdk_65_method_132_code 4 = .ok (.iload_n 2, 1) := by decide +kernel
theorem d25_5 : decode jdk_65_method_132_code 5 = .ok (.aload_n 0, 1) := by decide +kernel
theorem d25_6 : decode jdk_65_method_132_code 6 = .ok (.arraylength, 1) := by decide +kernel
theorem d25_7 : decode jdk_65_method_132_code 7 = .ok (.if_icmp .eq 10, 3) := by decide +kernel
theorem d25_10 : decode jdk_65_method_132_code 10 = .ok (.aload_n 0, 1) := by decide +kernel
theorem d25_11 : decode jdk_65_method_132_code 11 = .ok (.iload_n 1, 1) := by decide +kernel
theorem d25_12 : decode jdk_65_method_132_code 12 = .ok (.iload_n 2, 1) := by decide +kernel
theorem d25_13 : decode jdk_65_method_132_code 13 = .ok (.invokestatic 339, 3) := by decide +kernel
theorem d25_16 : decode jdk_65_method_132_code 16 = .ok (.areturn, 1) := by decide +kernel
theorem d25_17 : decode jdk_65_method_132_code 17 = .ok (.aload_n 0, 1) := by decide +kernel
theorem d25_18 : decode jdk_65_method_132_code 18 = .ok (.invokevirtual 310, 3) := by decide +kernel
theorem d25_21 : decode jdk_65_method_132_code 21 = .ok (.checkcast 311, 3) := by decide +kernel
theorem d25_24 : decode jdk_65_method_132_code 24 = .ok (.areturn, 1) := by decide +kernel
theorem ef_sb_chk (m : MethodId) (n : Nat) : entryFrame m #[(.int (0 : Int32)), (.int (Int32.ofNat n))] 2 = mkF m 0 #[.val (.int (0 : Int32)), .val (.int (Int32.ofNat n))] [] := by first | (simp [entryFrame, mkF, argsToLocals, Value.category]; done) | rfl
set_option maxRecDepth 65536 in
set_option maxHeartbeats 40000000 in
theorem sb_chk (l : Launch) (Z : State) (a0 : Array Value) (hw : ∀ d ∈ tables_1, d.before a0 Z = true) (hEL : EW Z a0 consts_1) (n : Nat) (h : Heap) (hn : n ≤ 4000) :
    Con l Z consts_1 True (⟨"java/util/Arrays", "checkLength", "(II)V"⟩ : MethodName) jdk_65_method_131_code 2 none ({ frames := 0, cells := 0, slots := 0, locals := 0 } : Room) [] #[(.int (0 : Int32)), (.int (Int32.ofNat n))] h (fun v h' ws' => v = none ∧ h' = h ∧ ws' = []) := by
  refine Con.intro own_pn14 (fun p e s m below meth c T X => ?_)
  rw [ef_sb_chk m n]
  refine s_iloadN X (pc' := 1) d27_0 rfl rfl ?_
  refine s_iloadN X (pc' := 2) d27_1 rfl rfl ?_
  refine s_icmpT X (pc' := 37) d27_2 (show ¬ Int32.ofNat n < 0 from on_nn (by omega)) (by decide) (by decide) ?_
  exact s_ret X hEL (ws' := []) d27_37 (by decide) (by decide) (fun x q => by simp at q) ⟨rfl, rfl, rfl⟩
theorem ef_sb_cob (m : MethodId) (t : Addr) (ds : List Int32) : entryFrame m #[(.ref t), (.int (0 : Int32)), (.int (Int32.ofNat ds.length))] 5 = mkF m 0 #[.val (.ref t), .val (.int (0 : Int32)), .val (.int (Int32.ofNat ds.length)), .unset, .unset] [] := by first | (simp [entryFrame, mkF, argsToLocals, Value.category]; done) | rfl
set_option maxRecDepth 65536 in
set_option maxHeartbeats 40000000 in
theorem sb_cob (l : Launch) (Z : State) (a0 : Array Value) (hw : ∀ d ∈ tables_1, d.before a0 Z = true) (hEL : EW Z a0 consts_1) (t : Addr) (ds : List Int32) (h : Heap) {r : List Value} (A_t : Ary Z h t .byte (bys ds ++ r)) (hv : ds.length + r.length ≤ 400) (hS : ds.length ≤ 40) :
    Con l Z consts_1 True (⟨"java/util/Arrays", "copyOfRangeByte", "([BII)[B"⟩ : MethodName) jdk_65_method_133_code 5 (some (.array .byte)) ({ frames := 1, cells := 1, slots := 40, locals := 18 } : Room) [] #[(.ref t), (.int (0 : Int32)), (.int (Int32.ofNat ds.length))] h (fun v h' ws' => ∃ b, v = some (.ref b) ∧ Ext h h' ∧ Ary Z h' b .byte (bys ds) ∧ ws' = []) := by
  refine Con.intro own_pn15 (fun p e s m below meth c T X => ?_)
  rw [ef_sb_cob m t ds]
  have hvt : (bys ds ++ r).length = ds.length + r.length := by rw [List.length_append, bys_len]
  have R_ : Ext h h := ext_refl _
  refine s_iloadN X (pc' := 1) d26_0 rfl rfl ?_
  refine s_iloadN X (pc' := 2) d26_1 rfl rfl ?_
  refine s_static X (pc' := 5) (W := 0) (as' := [(.int (0 : Int32)), (.int (Int32.ofNat ds.length))]) (S := []) (k' := 0) (n' := 0) d26_2 (hw _ (List.mem_of_getElem? (i := 141) rfl)) (hw _ (List.mem_of_getElem? (i := 142) rfl)) (hw _ (List.mem_of_getElem? (i := 136) rfl)) (hw _ (List.mem_of_getElem? (i := 143) rfl)) (by decide) own_pd11 rfl ((sb_chk l Z a0 hw hEL ds.length _ (by omega)).payS (by simp) (hw _ (List.mem_of_getElem? (i := 143) rfl)) (hw _ (List.mem_of_getElem? (i := 136) rfl)) hEL (by decide) (by decide)) (Nat.le_of_ble_eq_true rfl) rfl rfl (by decide) (by decide) (by decide) (by decide) rfl (fun T h37 v_ ws_ X hgr_ q38 => ?_)
  obtain ⟨rfl, e_, rfl⟩ := q38
  rw [e_] at X
  show Go p e below _ T (mkF m 5 #[.val (.ref t), .val (.int (0 : Int32)), .val (.int (Int32.ofNat ds.length)), .unset, .unset] [])
  replace X := X.sub (ws' := []) (by simp)
  refine s_iloadN X (pc' := 6) d26_5 rfl rfl ?_
  refine s_iloadN X (pc' := 7) d26_6 rfl rfl ?_
  refine s_isub X (pc' := 8) d26_7 rfl ?_
  refine go_int (z := (Int32.ofNat ds.length)) (sub0 _) ?_
  refine s_istoreN X (pc' := 9) (L' := #[.val (.ref t), .val (.int (0 : Int32)), .val (.int (Int32.ofNat ds.length)), .val (.int (Int32.ofNat ds.length)), .unset]) d26_8 rfl rfl ?_
  refine s_iloadN X (pc' := 10) d26_9 rfl rfl ?_
  refine s_newarr X (pc' := 12) (k' := 1) (n' := 40) (N := ds.length) d26_10 (hw _ (List.mem_of_getElem? (i := 19) rfl)) rfl (by omega) (by decide) (by omega) (by decide) (by decide) rfl (fun T h1 b gb_b X' E1 A_b => ?_)
  have g_b : Z.heap.size ≤ b := by rw [gb_b]; exact X.lt
  have ne_t_b : t ≠ b := Nat.ne_of_lt (by rw [gb_b]; exact A_t.lt)
  have sz_R__b : h.size ≤ b := by rw [gb_b]; exact R_.1
  replace A_t := A_t.ext E1
  replace R_ := ext_trans R_ E1
  replace X := X'
  refine s_astore X (pc' := 14) (L' := #[.val (.ref t), .val (.int (0 : Int32)), .val (.int (Int32.ofNat ds.length)), .val (.int (Int32.ofNat ds.length)), .val (.ref b)]) d26_12 rfl rfl rfl ?_
  refine s_aloadN X (pc' := 15) d26_14 rfl rfl rfl ?_
  refine s_iloadN X (pc' := 16) d26_15 rfl rfl ?_
  refine s_aload X (pc' := 18) d26_16 rfl rfl rfl ?_
  refine s_iconst X (pc' := 19) d26_18 (v := (0 : Int32)) rfl rfl ?_
  refine s_aloadN X (pc' := 20) d26_19 rfl rfl rfl ?_
  refine s_alen X (pc' := 21) (z := (Int32.ofNat (ds.length + r.length))) d26_20 A_t (by rw [hvt]) rfl ?_
  refine s_iloadN X (pc' := 22) d26_21 rfl rfl ?_
  refine s_isub X (pc' := 23) d26_22 rfl ?_
  refine go_int (z := (Int32.ofNat (ds.length + r.length))) (sub0 _) ?_
  refine s_iloadN X (pc' := 24) d26_23 rfl rfl ?_
  refine s_static X (pc' := 27) (W := 4) (as' := [(.int (Int32.ofNat (ds.length + r.length))), (.int (Int32.ofNat ds.length))]) (S := [(.int (0 : Int32)), (.ref b), (.int (0 : Int32)), (.ref t)]) (k' := 1) (n' := 40) d26_24 (hw _ (List.mem_of_getElem? (i := 144) rfl)) (hw _ (List.mem_of_getElem? (i := 145) rfl)) (hw _ (List.mem_of_getElem? (i := 146) rfl)) (hw _ (List.mem_of_getElem? (i := 147) rfl)) (by decide) own_pd3 rfl ((own_min l Z a0 hw hEL (Int32.ofNat (ds.length + r.length)) (Int32.ofNat ds.length) _).payS (by simp) (hw _ (List.mem_of_getElem? (i := 147) rfl)) (hw _ (List.mem_of_getElem? (i := 146) rfl)) hEL (by decide) (by decide)) (Nat.le_of_ble_eq_true rfl) rfl rfl (by decide) (by decide) (by decide) (by decide) rfl (fun T h39 v_ ws_ X hgr_ q40 => ?_)
  obtain ⟨rfl, e_, rfl⟩ := q40
  rw [e_] at X
  show Go p e below _ T (mkF m 27 #[.val (.ref t), .val (.int (0 : Int32)), .val (.int (Int32.ofNat ds.length)), .val (.int (Int32.ofNat ds.length)), .val (.ref b)] [(.int (if (Int32.ofNat ds.length) < (Int32.ofNat (ds.length + r.length)) then (Int32.ofNat ds.length) else (Int32.ofNat (ds.length + r.length)))), (.int (0 : Int32)), (.ref b), (.int (0 : Int32)), (.ref t)])
  replace X := X.sub (ws' := [b]) (by simp)
  refine go_int (z := (Int32.ofNat ds.length)) ((on_min (by omega) (by omega)).trans (by congr 1; omega)) ?_
  refine s_acopy X (pc' := 30) (sp := 0) (dp := 0) (nn := ds.length) (W := 0) d26_27 (hw _ (List.mem_of_getElem? (i := 148) rfl)) (hw _ (List.mem_of_getElem? (i := 100) rfl)) (hw _ (List.mem_of_getElem? (i := 98) rfl)) (hw _ (List.mem_of_getElem? (i := 99) rfl)) A_t A_b rfl rfl rfl rfl (by rw [hvt]; omega) (by simp) g_b (by simp) rfl (Nat.le_of_ble_eq_true rfl) (by decide) (by decide) rfl (fun T h2 X K_ A' => ?_)
  replace R_ := ext_keep R_ K_ (allS sz_R__b all0)
  refine s_aload X (pc' := 32) d26_30 rfl rfl rfl ?_
  exact s_aret X hEL (ws' := []) (t := (.array .byte)) d26_32 rfl rfl rfl rfl (by decide) (by decide) (fun x q => by simp at q) ⟨b, rfl, R_, (by
      have q : ((bys ds ++ r).drop 0).take ds.length = bys ds := by rw [List.drop_zero, ← bys_len ds]; exact List.take_left
      rw [q] at A'; simpa using A'), rfl⟩
theorem ef_sb_cor (m : MethodId) (t : Addr) (ds : List Int32) : entryFrame m #[(.ref t), (.int (0 : Int32)), (.int (Int32.ofNat ds.length))] 3 = mkF m 0 #[.val (.ref t), .val (.int (0 : Int32)), .val (.int (Int32.ofNat ds.length))] [] := by first | (simp [entryFrame, mkF, argsToLocals, Value.category]; done) | rfl
set_option maxRecDepth 65536 in
set_option maxHeartbeats 40000000 in
theorem sb_cor (l : Launch) (Z : State) (a0 : Array Value) (hw : ∀ d ∈ tables_1, d.before a0 Z = true) (hEL : EW Z a0 consts_1) (t : Addr) (ds : List Int32) (h : Heap) {r : List Value} (A_t : Ary Z h t .byte (bys ds ++ r)) (E_t : Exa Z h t "[B") (hv : ds.length + r.length ≤ 400) (hS : ds.length ≤ 40) :
    Con l Z consts_1 True (⟨"java/util/Arrays", "copyOfRange", "([BII)[B"⟩ : MethodName) jdk_65_method_132_code 3 (some (.array .byte)) ({ frames := 2, cells := 1, slots := 40, locals := 34 } : Room) [] #[(.ref t), (.int (0 : Int32)), (.int (Int32.ofNat ds.length))] h (fun v h' ws' => ∃ b, v = some (.ref b) ∧ Ext h h' ∧ Ary Z h' b .byte (bys ds) ∧ ws' = []) := by
  refine Con.intro own_pn16 (fun p e s m below meth c T X => ?_)
  rw [ef_sb_cor m t ds]
  have hvt : (bys ds ++ r).length = ds.length + r.length := by rw [List.length_append, bys_len]
  have R_ : Ext h h := ext_refl _
  refine s_iloadN X (pc' := 1) d25_0 rfl rfl ?_
  refine s_ifF X (pc' := 4) d25_1 (show (0 : Int32) = (0 : Int32) by decide) rfl ?_
  refine s_iloadN X (pc' := 5) d25_4 rfl rfl ?_
  refine s_aloadN X (pc' := 6) d25_5 rfl rfl rfl ?_
  refine s_alen X (pc' := 7) (z := (Int32.ofNat (ds.length + r.length))) d25_6 A_t (by rw [hvt]) rfl ?_
  refine s_icmp X (pc' := 17) (pcF := 10) d25_7 (by decide) (by decide) rfl (fun (q1 : (Int32.ofNat ds.length) = (Int32.ofNat (ds.length + r.length))) => ?_) (fun (q1 : ¬ (Int32.ofNat ds.length) = (Int32.ofNat (ds.length + r.length))) => ?_)
  · obtain rfl : r = [] := List.length_eq_zero_iff.mp (by have := (on_eq (by omega) (by omega)).mp q1; omega)
    rw [List.append_nil] at A_t
    refine s_aloadN X (pc' := 18) d25_17 rfl rfl rfl ?_
    refine s_clone X (pc' := 21) (k' := 1) (n' := 40) (W := 0) d25_18 (hw _ (List.mem_of_getElem? (i := 395) rfl)) (hw _ (List.mem_of_getElem? (i := 396) rfl)) (hw _ (List.mem_of_getElem? (i := 400) rfl)) (hw _ (List.mem_of_getElem? (i := 398) rfl)) (hw _ (List.mem_of_getElem? (i := 399) rfl)) (hw _ (List.mem_of_getElem? (i := 401) rfl)) A_t E_t rfl (Nat.le_of_ble_eq_true rfl) (by decide) (by decide) (by decide) (by rw [bys_len]; omega) (by decide) (by decide) rfl (fun T h1 b gb X' E1 A_b E_b => ?_)
    have sz_R__b : h.size ≤ b := by rw [gb]; exact R_.1
    replace R_ := ext_trans R_ E1
    replace X := X'
    refine s_castY X (pc' := 24) d25_21 (hw _ (List.mem_of_getElem? (i := 402) rfl)) (Ins.self E_b) rfl (fun T X => ?_)
    exact s_aret X hEL (ws' := []) (t := (.array .byte)) d25_24 rfl rfl rfl rfl (by decide) (by decide) (fun x q => by simp at q) ⟨b, rfl, R_, A_b, rfl⟩
  · refine s_aloadN X (pc' := 11) d25_10 rfl rfl rfl ?_
    refine s_iloadN X (pc' := 12) d25_11 rfl rfl ?_
    refine s_iloadN X (pc' := 13) d25_12 rfl rfl ?_
    refine s_static X (pc' := 16) (W := 0) (as' := [(.ref t), (.int (0 : Int32)), (.int (Int32.ofNat ds.length))]) (S := []) (k' := 1) (n' := 40) d25_13 (hw _ (List.mem_of_getElem? (i := 138) rfl)) (hw _ (List.mem_of_getElem? (i := 139) rfl)) (hw _ (List.mem_of_getElem? (i := 136) rfl)) (hw _ (List.mem_of_getElem? (i := 140) rfl)) (by decide) own_pd12 rfl ((sb_cob l Z a0 hw hEL t ds _ A_t hv hS).payS (by simp) (hw _ (List.mem_of_getElem? (i := 140) rfl)) (hw _ (List.mem_of_getElem? (i := 136) rfl)) hEL (by decide) (by decide)) (Nat.le_of_ble_eq_true rfl) rfl rfl (by decide) (by decide) (by decide) (by decide) rfl (fun T h41 v_ ws_ X hgr_ q42 => ?_)
    obtain ⟨b, rfl, E_, A_b, rfl⟩ := q42
    show Go p e below _ T (mkF m 16 #[.val (.ref t), .val (.int (0 : Int32)), .val (.int (Int32.ofNat ds.length))] [(.ref b)])
    replace X := X.sub (ws' := []) (by simp)
    exact s_aret X hEL (ws' := []) (t := (.array .byte)) d25_16 rfl rfl rfl rfl (by decide) (by decide) (fun x q => by simp at q) ⟨b, rfl, E_, A_b, rfl⟩
theorem d21_0 : decode jdk_68_method_64_code 0 = .ok (.aload_n 0, 1) := by decide +kernel
theorem d21_1 : decode jdk_68_method_64_code 1 = .ok (.getfield 15, 3) := by decide +kernel
theorem d21_4 : decode jdk_68_method_64_code 4 = .ok (.areturn, 1) := by decide +kernel
theorem d23_0 : decode jdk_68_method_6_code 0 = .ok (.aload_n 0, 1) := by decide +kernel
theorem d23_1 : decode jdk_68_method_6_code 1 = .ok (.getfield 79, 3) := by decide +kernel
theorem d23_4 : decode jdk_68_method_6_code 4 = .ok (.ireturn, 1) := by decide +kernel
theorem d22_0 : decode jdk_67_method_93_code 0 = .ok (.aload_n 0, 1) := by decide +kernel
theorem d22_1 : decode jdk_67_method_93_code 1 = .ok (.invokespecial 343, 3) := by decide +kernel
theorem d22_4 : decode jdk_67_method_93_code 4 = .ok (.ireturn, 1) := by decide +kernel
theorem ef_sb_gv (m : MethodId) (k : Addr) : entryFrame m #[(.ref k)] 1 = mkF m 0 #[.val (.ref k)] [] := by first | (simp [entryFrame, mkF, argsToLocals, Value.category]; done) | rfl
set_option maxRecDepth 65536 in
set_option maxHeartbeats 40000000 in
theorem sb_gv (l : Launch) (Z : State) (a0 : Array Value) (hw : ∀ d ∈ tables_1, d.before a0 Z = true) (hEL : EW Z a0 consts_1) (k : Addr) (h : Heap) {t : Addr} (F_k_value : Fld Z h k "java/lang/AbstractStringBuilder" "value" "[B" (.ref t)) :
    Con l Z consts_1 True (⟨"java/lang/AbstractStringBuilder", "getValue", "()[B"⟩ : MethodName) jdk_68_method_64_code 1 (some (.array .byte)) ({ frames := 0, cells := 0, slots := 0, locals := 0 } : Room) [] #[(.ref k)] h (fun v h' ws' => v = some (.ref t) ∧ h' = h ∧ ws' = []) := by
  refine Con.intro own_pn17 (fun p e s m below meth c T X => ?_)
  rw [ef_sb_gv m k]
  refine s_aloadN X (pc' := 1) d21_0 rfl rfl rfl ?_
  refine s_getf X (pc' := 4) d21_1 (hw _ (List.mem_of_getElem? (i := 50) rfl)) Via.refl F_k_value rfl (fun T X => ?_)
  exact s_aret X hEL (ws' := []) (t := (.array .byte)) d21_4 rfl rfl rfl rfl (by decide) (by decide) (fun x q => by simp at q) ⟨rfl, rfl, rfl⟩
theorem ef_sb_alen (m : MethodId) (k : Addr) : entryFrame m #[(.ref k)] 1 = mkF m 0 #[.val (.ref k)] [] := by first | (simp [entryFrame, mkF, argsToLocals, Value.category]; done) | rfl
set_option maxRecDepth 65536 in
set_option maxHeartbeats 40000000 in
theorem sb_alen (l : Launch) (Z : State) (a0 : Array Value) (hw : ∀ d ∈ tables_1, d.before a0 Z = true) (hEL : EW Z a0 consts_1) (k : Addr) (h : Heap) {z : Int32} (F_k_count : Fld Z h k "java/lang/AbstractStringBuilder" "count" "I" (.int z)) :
    Con l Z consts_1 True (⟨"java/lang/AbstractStringBuilder", "length", "()I"⟩ : MethodName) jdk_68_method_6_code 1 (some .int) ({ frames := 0, cells := 0, slots := 0, locals := 0 } : Room) [] #[(.ref k)] h (fun v h' ws' => v = some (.int (z)) ∧ h' = h ∧ ws' = []) := by
  refine Con.intro own_pn18 (fun p e s m below meth c T X => ?_)
  rw [ef_sb_alen m k]
  refine s_aloadN X (pc' := 1) d23_0 rfl rfl rfl ?_
  refine s_getf X (pc' := 4) d23_1 (hw _ (List.mem_of_getElem? (i := 74) rfl)) Via.refl F_k_count rfl (fun T X => ?_)
  exact s_iret X hEL (ws' := []) d23_4 (by decide) (by decide) (fun x q => by simp at q) ⟨rfl, rfl, rfl⟩
theorem ef_sb_slen (m : MethodId) (k : Addr) : entryFrame m #[(.ref k)] 1 = mkF m 0 #[.val (.ref k)] [] := by first | (simp [entryFrame, mkF, argsToLocals, Value.category]; done) | rfl
set_option maxRecDepth 65536 in
set_option maxHeartbeats 40000000 in
theorem sb_slen (l : Launch) (Z : State) (a0 : Array Value) (hw : ∀ d ∈ tables_1, d.before a0 Z = true) (hEL : EW Z a0 consts_1) (k : Addr) (h : Heap) {z : Int32} (E_k : Exa Z h k "java/lang/StringBuilder") (F_k_count : Fld Z h k "java/lang/AbstractStringBuilder" "count" "I" (.int z)) :
    Con l Z consts_1 True (⟨"java/lang/StringBuilder", "length", "()I"⟩ : MethodName) jdk_67_method_93_code 1 (some .int) ({ frames := 1, cells := 0, slots := 0, locals := 12 } : Room) [] #[(.ref k)] h (fun v h' ws' => v = some (.int (z)) ∧ h' = h ∧ ws' = []) := by
  refine Con.intro own_pn19 (fun p e s m below meth c T X => ?_)
  rw [ef_sb_slen m k]
  refine s_aloadN X (pc' := 1) d22_0 rfl rfl rfl ?_
  refine s_super X (pc' := 4) (W := 0) (as' := []) (S := []) (k' := 0) (n' := 0) d22_1 (hw _ (List.mem_of_getElem? (i := 127) rfl)) (same_of (hw _ (List.mem_of_getElem? (i := 122) rfl)) (hw _ (List.mem_of_getElem? (i := 79) rfl)) rfl (by decide)) (hw _ (List.mem_of_getElem? (i := 123) rfl)) (hw _ (List.mem_of_getElem? (i := 61) rfl)) (hw _ (List.mem_of_getElem? (i := 128) rfl)) (by decide) own_pd7 rfl (Ins.self E_k) ((sb_alen l Z a0 hw hEL k _ F_k_count).payS (by simp) (hw _ (List.mem_of_getElem? (i := 128) rfl)) (hw _ (List.mem_of_getElem? (i := 46) rfl)) hEL (by decide) (by decide)) (Nat.le_of_ble_eq_true rfl) rfl rfl (by decide) (by decide) (by decide) (by decide) rfl (fun T h43 v_ ws_ X hgr_ q44 => ?_)
  obtain ⟨rfl, e_, rfl⟩ := q44
  rw [e_] at X
  show Go p e below _ T (mkF m 4 #[.val (.ref k)] [(.int z)])
  replace X := X.sub (ws' := []) (by simp)
  exact s_iret X hEL (ws' := []) d22_4 (by decide) (by decide) (fun x q => by simp at q) ⟨rfl, rfl, rfl⟩
theorem d24_0 : decode jdk_68_method_68_code 0 = .ok (.getstatic 18, 3) := by decide +kernel
theorem d24_3 : decode jdk_68_method_68_code 3 = .ok (.ifCond .eq 14, 3) := by decide +kernel
theorem d24_6 : decode jdk_68_method_68_code 6 = .ok (.aload_n 0, 1) := by decide +kernel
theorem d24_7 : decode jdk_68_method_68_code 7 = .ok (.getfield 22, 3) := by decide +kernel
theorem d24_10 : decode jdk_68_method_68_code 10 = .ok (.ifCond .ne 7, 3) := by decide +kernel
theorem d24_13 : decode jdk_68_method_68_code 13 = .ok (.iconst 1, 1) := by decide +kernel
theorem d24_14 : decode jdk_68_method_68_code 14 = .ok (.goto 4, 3) := by decide +kernel
theorem d24_17 : decode jdk_68_method_68_code 17 = .ok (.iconst 0, 1) := by decide +kernel
theorem d24_18 : decode jdk_68_method_68_code 18 = .ok (.ireturn, 1) := by decide +kernel
theorem ef_sb_isl (m : MethodId) (k : Addr) : entryFrame m #[(.ref k)] 1 = mkF m 0 #[.val (.ref k)] [] := by first | (simp [entryFrame, mkF, argsToLocals, Value.category]; done) | rfl
set_option maxRecDepth 65536 in
set_option maxHeartbeats 40000000 in
theorem sb_isl (l : Launch) (Z : State) (a0 : Array Value) (hw : ∀ d ∈ tables_1, d.before a0 Z = true) (hEL : EW Z a0 consts_1) (k : Addr) {G1 : Int32} (h : Heap) (F_k_coder : Fld Z h k "java/lang/AbstractStringBuilder" "coder" "B" (.int (0 : Int32))) (O2 : Sta Z Z.heap "java/lang/String" "COMPACT_STRINGS" "Z" (.int G1)) (P5 : ¬ (G1 = (0 : Int32))) :
    Con l Z consts_1 True (⟨"java/lang/AbstractStringBuilder", "isLatin1", "()Z"⟩ : MethodName) jdk_68_method_68_code 1 (some .boolean) ({ frames := 0, cells := 0, slots := 0, locals := 0 } : Room) [] #[(.ref k)] h (fun v h' ws' => v = some (.int (1)) ∧ h' = h ∧ ws' = []) := by
  refine Con.intro own_pn20 (fun p e s m below meth c T X => ?_)
  rw [ef_sb_isl m k]
  refine s_gets X (pc' := 3) d24_0 (hw _ (List.mem_of_getElem? (i := 49) rfl)) Via.refl O2 rfl (fun T X => ?_)
  refine s_ifF X (pc' := 6) d24_3 P5 rfl ?_
  refine s_aloadN X (pc' := 7) d24_6 rfl rfl rfl ?_
  refine s_getf X (pc' := 10) d24_7 (hw _ (List.mem_of_getElem? (i := 52) rfl)) Via.refl F_k_coder rfl (fun T X => ?_)
  refine s_ifF X (pc' := 13) d24_10 (show (0 : Int32) = (0 : Int32) by decide) rfl ?_
  refine s_iconst X (pc' := 14) d24_13 (v := (1 : Int32)) rfl rfl ?_
  refine s_goto X (pc' := 18) d24_14 (by decide) (by decide) ?_
  exact s_iretN X hEL (ws' := []) (t := .boolean) d24_18 rfl (by simp) (by decide) (by decide) (fun x q => by simp at q) ⟨rfl, rfl, rfl⟩
theorem d20_0 : decode jdk_42_method_150_code 0 = .ok (.aload_n 0, 1) := by decide +kernel
theorem d20_1 : decode jdk_42_method_150_code 1 = .ok (.invokespecial 1, 3) := by decide +kernel
theorem d20_4 : decode jdk_42_method_150_code 4 = .ok (.aload_n 1, 1) := by decide +kernel
theorem d20_5 : decode jdk_42_method_150_code 5 = .ok (.invokevirtual 552, 3) := by decide +kernel
theorem d20_8 : decode jdk_42_method_150_code 8 = .ok (.astore_n 3, 1) := by decide +kernel
theorem d20_9 : decode jdk_42_method_150_code 9 = .ok (.aload_n 1, 1) := by decide +kernel
theorem d20_10 : decode jdk_42_method_150_code 10 = .ok (.invokevirtual 549, 3) := by decide +kernel
theorem d20_13 : decode jdk_42_method_150_code 13 = .ok (.istore 4, 2) := by decide +kernel
theorem d20_15 : decode jdk_42_method_150_code 15 = .ok (.aload_n 1, 1) := by decide +kernel
theorem d20_16 : decode jdk_42_method_150_code 16 = .ok (.invokevirtual 1047, 3) := by decide +kernel
theorem d20_19 : decode jdk_42_method_150_code 19 = .ok (.ifCond .eq 22, 3) := by decide +kernel
theorem d20_22 : decode jdk_42_method_150_code 22 = .ok (.aload_n 0, 1) := by decide +kernel
theorem d20_23 : decode jdk_42_method_150_code 23 = .ok (.iconst 0, 1) := by decide +kernel
theorem d20_24 : decode jdk_42_method_150_code 24 = .ok (.putfield 15, 3) := by decide +kernel
theorem d20_27 : decode jdk_42_method_150_code 27 = .ok (.aload_n 0, 1) := by decide +kernel
theorem d20_28 : decode jdk_42_method_150_code 28 = .ok (.aload_n 3, 1) := by decide +kernel
theorem d20_29 : decode jdk_42_method_150_code 29 = .ok (.iconst 0, 1) := by decide +kernel
theorem d20_30 : decode jdk_42_method_150_code 30 = .ok (.iload 4, 2) := by decide +kernel
theorem d20_32 : decode jdk_42_method_150_code 32 = .ok (.invokestatic 54, 3) := by decide +kernel
theorem d20_35 : decode jdk_42_method_150_code 35 = .ok (.putfield 9, 3) := by decide +kernel
theorem d20_38 : decode jdk_42_method_150_code 38 = .ok (.goto 59, 3) := by decide +kernel
theorem d20_97 : decode jdk_42_method_150_code 97 = .ok (.return_, 1) := by decide +kernel
theorem d19_0 : decode jdk_42_method_53_code 0 = .ok (.aload_n 0, 1) := by decide +kernel
theorem d19_1 : decode jdk_42_method_53_code 1 = .ok (.aload_n 1, 1) := by decide +kernel
theorem d19_2 : decode jdk_42_method_53_code 2 = .ok (.aconst_null, 1) := by decide +kernel
theorem d19_3 : decode jdk_42_method_53_code 3 = .ok (.invokespecial 489, 3) := by decide +kernel
theorem d19_6 : decode jdk_42_method_53_code 6 = .ok (.return_, 1) := by decide +kernel
theorem d18_0 : decode jdk_67_method_42_code 0 = .ok (.new 18, 3) := by decide +kernel
theorem d18_3 : decode jdk_67_method_42_code 3 = .ok (.dup, 1) := by decide +kernel
theorem d18_4 : decode jdk_67_method_42_code 4 = .ok (.aload_n 0, 1) := by decide +kernel
theorem d18_5 : decode jdk_67_method_42_code 5 = .ok (.invokespecial 137, 3) := by decide +kernel
theorem d18_8 : decode jdk_67_method_42_code 8 = .ok (.areturn, 1) := by decide +kernel
theorem ef_sb_s2 (m : MethodId) (x k : Addr) : entryFrame m #[(.ref x), (.ref k), .null] 5 = mkF m 0 #[.val (.ref x), .val (.ref k), .val .null, .unset, .unset] [] := by first | (simp [entryFrame, mkF, argsToLocals, Value.category]; done) | rfl
set_option maxRecDepth 65536 in
set_option maxHeartbeats 40000000 in
theorem sb_s2 (l : Launch) (Z : State) (a0 : Array Value) (hw : ∀ d ∈ tables_1, d.before a0 Z = true) (hEL : EW Z a0 consts_1) (x k : Addr) (h : Heap) {t : Addr} {ds : List Int32} {r : List Value} {G1 : Int32} (S_k : SBD Z h k t ds r) (hv : ds.length + r.length ≤ 400) (hS : ds.length ≤ 40) (hds : Lat ds) (g_x : Z.heap.size ≤ x) (E_x : Exa Z h x "java/lang/String") (F_x_value : Fld Z h x "java/lang/String" "value" "[B" .null) (F_x_coder : Fld Z h x "java/lang/String" "coder" "B" (.int (0 : Int32))) (O2 : Sta Z Z.heap "java/lang/String" "COMPACT_STRINGS" "Z" (.int G1)) (P5 : ¬ (G1 = (0 : Int32))) :
    Con l Z consts_1 True (⟨"java/lang/String", "<init>", "(Ljava/lang/AbstractStringBuilder;Ljava/lang/Void;)V"⟩ : MethodName) jdk_42_method_150_code 5 none ({ frames := 3, cells := 1, slots := 40, locals := 49 } : Room) [x] #[(.ref x), (.ref k), .null] h (fun v h' ws' => v = none ∧ Keep h h' [x] ∧ Str Z h' x ds ∧ ws' = []) := by
  refine Con.intro own_pn21 (fun p e s m below meth c T X => ?_)
  rw [ef_sb_s2 m x k]
  obtain ⟨E_k, F_k_value, F_k_coder, F_k_count, A_t, E_t⟩ := S_k
  have K_ : Keep h h [x] := Keep.refl _ _
  have ne_t_x : t ≠ x := by obtain ⟨kc, q⟩ := A_t.arv .null; exact (Exa.neArv E_x q (hw _ (List.mem_of_getElem? (i := 1) rfl))).symm
  refine s_aloadN X (pc' := 1) d20_0 rfl rfl rfl ?_
  refine s_initO X (pc' := 4) (W := 0) d20_1 (hw _ (List.mem_of_getElem? (i := 11) rfl)) (hw _ (List.mem_of_getElem? (i := 12) rfl)) (b' := object_method_1_code) rfl (hw _ (List.mem_of_getElem? (i := 13) rfl)) (Nat.le_of_ble_eq_true rfl) (by decide) (by decide) rfl rfl (fun T X => ?_)
  refine s_aloadN X (pc' := 5) d20_4 rfl rfl rfl ?_
  refine s_virtual X (pc' := 8) (W := 0) (as' := []) (S := []) (k' := 0) (n' := 0) d20_5 (hw _ (List.mem_of_getElem? (i := 116) rfl)) (hw _ (List.mem_of_getElem? (i := 117) rfl)) (hw _ (List.mem_of_getElem? (i := 119) rfl)) (hw _ (List.mem_of_getElem? (i := 118) rfl)) (nface (hw _ (List.mem_of_getElem? (i := 119) rfl))) (by decide) own_pd13 rfl E_k ((sb_gv l Z a0 hw hEL k _ F_k_value).payS (by simp) (hw _ (List.mem_of_getElem? (i := 120) rfl)) (hw _ (List.mem_of_getElem? (i := 46) rfl)) hEL (by decide) (by decide)) (Nat.le_of_ble_eq_true rfl) rfl rfl (by decide) (by decide) (by decide) (by decide) rfl (fun T h45 v_ ws_ X hgr_ q46 => ?_)
  obtain ⟨rfl, e_, rfl⟩ := q46
  rw [e_] at X
  show Go p e below _ T (mkF m 8 #[.val (.ref x), .val (.ref k), .val .null, .unset, .unset] [(.ref t)])
  replace X := X.sub (ws' := [x]) (by simp)
  refine s_astoreN X (pc' := 9) (L' := #[.val (.ref x), .val (.ref k), .val .null, .val (.ref t), .unset]) d20_8 rfl rfl rfl ?_
  refine s_aloadN X (pc' := 10) d20_9 rfl rfl rfl ?_
  refine s_virtual X (pc' := 13) (W := 0) (as' := []) (S := []) (k' := 0) (n' := 0) d20_10 (hw _ (List.mem_of_getElem? (i := 121) rfl)) (hw _ (List.mem_of_getElem? (i := 122) rfl)) (hw _ (List.mem_of_getElem? (i := 124) rfl)) (hw _ (List.mem_of_getElem? (i := 125) rfl)) (nfaceC (hw _ (List.mem_of_getElem? (i := 79) rfl)) rfl) (by decide) own_pd7 rfl E_k ((sb_slen l Z a0 hw hEL k _ E_k F_k_count).payS (by simp) (hw _ (List.mem_of_getElem? (i := 126) rfl)) (hw _ (List.mem_of_getElem? (i := 38) rfl)) hEL (by decide) (by decide)) (Nat.le_of_ble_eq_true rfl) rfl rfl (by decide) (by decide) (by decide) (by decide) rfl (fun T h47 v_ ws_ X hgr_ q48 => ?_)
  obtain ⟨rfl, e_, rfl⟩ := q48
  rw [e_] at X
  show Go p e below _ T (mkF m 13 #[.val (.ref x), .val (.ref k), .val .null, .val (.ref t), .unset] [(.int (Int32.ofNat ds.length))])
  replace X := X.sub (ws' := [x]) (by simp)
  refine s_istore X (pc' := 15) (L' := #[.val (.ref x), .val (.ref k), .val .null, .val (.ref t), .val (.int (Int32.ofNat ds.length))]) d20_13 rfl rfl ?_
  refine s_aloadN X (pc' := 16) d20_15 rfl rfl rfl ?_
  refine s_virtual X (pc' := 19) (W := 0) (as' := []) (S := []) (k' := 0) (n' := 0) d20_16 (hw _ (List.mem_of_getElem? (i := 129) rfl)) (hw _ (List.mem_of_getElem? (i := 130) rfl)) (hw _ (List.mem_of_getElem? (i := 132) rfl)) (hw _ (List.mem_of_getElem? (i := 131) rfl)) (nface (hw _ (List.mem_of_getElem? (i := 132) rfl))) (by decide) own_pd14 rfl E_k ((sb_isl l Z a0 hw hEL k _ F_k_coder O2 P5).payS (by simp) (hw _ (List.mem_of_getElem? (i := 133) rfl)) (hw _ (List.mem_of_getElem? (i := 46) rfl)) hEL (by decide) (by decide)) (Nat.le_of_ble_eq_true rfl) rfl rfl (by decide) (by decide) (by decide) (by decide) rfl (fun T h49 v_ ws_ X hgr_ q50 => ?_)
  obtain ⟨rfl, e_, rfl⟩ := q50
  rw [e_] at X
  show Go p e below _ T (mkF m 19 #[.val (.ref x), .val (.ref k), .val .null, .val (.ref t), .val (.int (Int32.ofNat ds.length))] [(.int (1 : Int32))])
  replace X := X.sub (ws' := [x]) (by simp)
  refine s_ifF X (pc' := 22) d20_19 (show ¬ (1 : Int32) = (0 : Int32) by decide) rfl ?_
  refine s_aloadN X (pc' := 23) d20_22 rfl rfl rfl ?_
  refine s_iconst X (pc' := 24) d20_23 (v := (0 : Int32)) rfl rfl ?_
  refine s_putf X (pc' := 27) d20_24 (hw _ (List.mem_of_getElem? (i := 26) rfl)) Via.refl F_x_coder E_x (Or.inr ⟨(hw _ (List.mem_of_getElem? (i := 27) rfl)), rfl, rfl⟩) (hw _ (List.mem_of_getElem? (i := 1) rfl)) (ty := .byte) (by decide) rfl rfl g_x (by simp) rfl (fun T h51 X W52 => ?_)
  replace F_k_value := F_k_value.other W52 (Or.inl (Exa.ne E_k E_x (by decide)))
  replace F_k_coder := F_k_coder.other W52 (Or.inl (Exa.ne E_k E_x (by decide)))
  replace F_k_count := F_k_count.other W52 (Or.inl (Exa.ne E_k E_x (by decide)))
  replace F_x_value := F_x_value.other W52 (Or.inr (slot_ne (Or.inr (hw _ (List.mem_of_getElem? (i := 29) rfl))) (Or.inr (hw _ (List.mem_of_getElem? (i := 27) rfl))) (t := (.array .byte)) (t' := .byte) (by decide) (by decide) (by decide)))
  replace F_x_coder := F_x_coder.same W52
  replace A_t := A_t.other W52 ne_t_x
  replace E_k := E_k.wr W52
  replace E_x := E_x.wr W52
  replace E_t := E_t.wr W52
  replace K_ := K_.wr W52 (Or.inl (by simp))
  refine s_aloadN X (pc' := 28) d20_27 rfl rfl rfl ?_
  refine s_aloadN X (pc' := 29) d20_28 rfl rfl rfl ?_
  refine s_iconst X (pc' := 30) d20_29 (v := (0 : Int32)) rfl rfl ?_
  refine s_iload X (pc' := 32) d20_30 rfl rfl ?_
  refine s_static X (pc' := 35) (W := 1) (as' := [(.ref t), (.int (0 : Int32)), (.int (Int32.ofNat ds.length))]) (S := [(.ref x)]) (k' := 1) (n' := 40) d20_32 (hw _ (List.mem_of_getElem? (i := 134) rfl)) (hw _ (List.mem_of_getElem? (i := 135) rfl)) (hw _ (List.mem_of_getElem? (i := 136) rfl)) (hw _ (List.mem_of_getElem? (i := 137) rfl)) (by decide) own_pd12 rfl ((sb_cor l Z a0 hw hEL t ds _ A_t E_t hv hS).payS (by simp) (hw _ (List.mem_of_getElem? (i := 137) rfl)) (hw _ (List.mem_of_getElem? (i := 136) rfl)) hEL (by decide) (by decide)) (Nat.le_of_ble_eq_true rfl) rfl rfl (by decide) (by decide) (by decide) (by decide) rfl (fun T h53 v_ ws_ X hgr_ q54 => ?_)
  obtain ⟨b, rfl, E_, A_b, rfl⟩ := q54
  show Go p e below _ T (mkF m 35 #[.val (.ref x), .val (.ref k), .val .null, .val (.ref t), .val (.int (Int32.ofNat ds.length))] [(.ref b), (.ref x)])
  replace X := X.sub (ws' := [x]) (by simp)
  replace E_x := E_x.ext E_
  replace F_x_value := F_x_value.ext E_
  replace F_x_coder := F_x_coder.ext E_
  replace K_ := K_.ext E_
  have ne_b_x : b ≠ x := by obtain ⟨kc, q⟩ := A_b.arv .null; exact (Exa.neArv E_x q (hw _ (List.mem_of_getElem? (i := 1) rfl))).symm
  refine s_putf X (pc' := 38) d20_35 (hw _ (List.mem_of_getElem? (i := 28) rfl)) Via.refl F_x_value E_x (Or.inr ⟨(hw _ (List.mem_of_getElem? (i := 29) rfl)), rfl, rfl⟩) (hw _ (List.mem_of_getElem? (i := 1) rfl)) (ty := (.array .byte)) (by decide) rfl rfl g_x (by simp) rfl (fun T h55 X W56 => ?_)
  replace F_x_value := F_x_value.same W56
  replace F_x_coder := F_x_coder.other W56 (Or.inr (slot_ne (Or.inr (hw _ (List.mem_of_getElem? (i := 27) rfl))) (Or.inr (hw _ (List.mem_of_getElem? (i := 29) rfl))) (t := .byte) (t' := (.array .byte)) (by decide) (by decide) (by decide)))
  replace A_b := A_b.other W56 ne_b_x
  replace E_x := E_x.wr W56
  replace K_ := K_.wr W56 (Or.inl (by simp))
  refine s_goto X (pc' := 97) d20_38 (by decide) (by decide) ?_
  exact s_ret X hEL (ws' := []) d20_97 (by decide) (by decide) (fun x q => by simp at q) ⟨rfl, K_, Str.ofLatin E_x F_x_value F_x_coder A_b hds (by omega), rfl⟩
theorem ef_sb_s1 (m : MethodId) (x k : Addr) : entryFrame m #[(.ref x), (.ref k)] 2 = mkF m 0 #[.val (.ref x), .val (.ref k)] [] := by first | (simp [entryFrame, mkF, argsToLocals, Value.category]; done) | rfl
set_option maxRecDepth 65536 in
set_option maxHeartbeats 40000000 in
theorem sb_s1 (l : Launch) (Z : State) (a0 : Array Value) (hw : ∀ d ∈ tables_1, d.before a0 Z = true) (hEL : EW Z a0 consts_1) (x k : Addr) (h : Heap) {t : Addr} {ds : List Int32} {r : List Value} {G1 : Int32} (S_k : SBD Z h k t ds r) (hv : ds.length + r.length ≤ 400) (hS : ds.length ≤ 40) (hds : Lat ds) (g_x : Z.heap.size ≤ x) (E_x : Exa Z h x "java/lang/String") (F_x_value : Fld Z h x "java/lang/String" "value" "[B" .null) (F_x_coder : Fld Z h x "java/lang/String" "coder" "B" (.int (0 : Int32))) (O2 : Sta Z Z.heap "java/lang/String" "COMPACT_STRINGS" "Z" (.int G1)) (P5 : ¬ (G1 = (0 : Int32))) :
    Con l Z consts_1 True (⟨"java/lang/String", "<init>", "(Ljava/lang/StringBuilder;)V"⟩ : MethodName) jdk_42_method_53_code 2 none ({ frames := 4, cells := 1, slots := 40, locals := 65 } : Room) [x] #[(.ref x), (.ref k)] h (fun v h' ws' => v = none ∧ Keep h h' [x] ∧ Str Z h' x ds ∧ ws' = []) := by
  refine Con.intro own_pn22 (fun p e s m below meth c T X => ?_)
  rw [ef_sb_s1 m x k]
  refine s_aloadN X (pc' := 1) d19_0 rfl rfl rfl ?_
  refine s_aloadN X (pc' := 2) d19_1 rfl rfl rfl ?_
  refine s_aconst X (pc' := 3) d19_2 rfl ?_
  refine s_special X (pc' := 6) (W := 0) (as' := [(.ref k), .null]) (S := []) (k' := 1) (n' := 40) d19_3 rfl (hw _ (List.mem_of_getElem? (i := 113) rfl)) (hw _ (List.mem_of_getElem? (i := 114) rfl)) (hw _ (List.mem_of_getElem? (i := 115) rfl)) (by decide) own_pd15 rfl ((sb_s2 l Z a0 hw hEL x k _ S_k hv hS hds g_x E_x F_x_value F_x_coder O2 P5).payS (by simp) (hw _ (List.mem_of_getElem? (i := 115) rfl)) (hw _ (List.mem_of_getElem? (i := 2) rfl)) hEL (by decide) (by decide)) (Nat.le_of_ble_eq_true rfl) rfl rfl (by decide) (by decide) (by decide) (by decide) rfl (fun T h57 v_ ws_ X hgr_ q58 => ?_)
  obtain ⟨rfl, K_, S_, rfl⟩ := q58
  show Go p e below _ T (mkF m 6 #[.val (.ref x), .val (.ref k)] [])
  replace X := X.sub (ws' := [x]) (by simp)
  exact s_ret X hEL (ws' := []) d19_6 (by decide) (by decide) (fun x q => by simp at q) ⟨rfl, K_, S_, rfl⟩
theorem ef_sb_ts (m : MethodId) (k : Addr) : entryFrame m #[(.ref k)] 1 = mkF m 0 #[.val (.ref k)] [] := by first | (simp [entryFrame, mkF, argsToLocals, Value.category]; done) | rfl
set_option maxRecDepth 65536 in
set_option maxHeartbeats 40000000 in
theorem sb_ts (l : Launch) (Z : State) (a0 : Array Value) (hw : ∀ d ∈ tables_1, d.before a0 Z = true) (hEL : EW Z a0 consts_1) (k : Addr) (h : Heap) {t : Addr} {ds : List Int32} {r : List Value} {G1 : Int32} (S_k : SBD Z h k t ds r) (hv : ds.length + r.length ≤ 400) (hS : ds.length ≤ 40) (hds : Lat ds) (O2 : Sta Z Z.heap "java/lang/String" "COMPACT_STRINGS" "Z" (.int G1)) (P5 : ¬ (G1 = (0 : Int32))) :
    Con l Z consts_1 True (⟨"java/lang/StringBuilder", "toString", "()Ljava/lang/String;"⟩ : MethodName) jdk_67_method_42_code 1 (some (.object "java/lang/String")) ({ frames := 5, cells := 2, slots := 44, locals := 79 } : Room) [] #[(.ref k)] h (fun v h' ws' => ∃ x, v = some (.ref x) ∧ Ext h h' ∧ Str Z h' x ds ∧ ws' = []) := by
  refine Con.intro own_pn23 (fun p e s m below meth c T X => ?_)
  rw [ef_sb_ts m k]
  have R_ : Ext h h := ext_refl _
  refine s_new X (pc' := 3) (k' := 1) (n' := 4) d18_0 (hw _ (List.mem_of_getElem? (i := 109) rfl)) (hw _ (List.mem_of_getElem? (i := 1) rfl)) (hw _ (List.mem_of_getElem? (i := 2) rfl)) (by decide) (by decide) (by decide) (by decide) rfl (fun T h60 b59 gb_b59 X' E61 E_b59 D_b59 U_b59 => ?_)
  have g_b59 : Z.heap.size ≤ b59 := by rw [gb_b59]; exact X.lt
  have sz_R__b59 : h.size ≤ b59 := by rw [gb_b59]; exact R_.1
  replace R_ := ext_trans R_ E61
  replace X := X'
  have F_b59_coder : Fld Z h60 b59 "java/lang/String" "coder" "B" (.int (0 : Int32)) := D_b59 (Or.inr (hw _ (List.mem_of_getElem? (i := 27) rfl))) (ty := .byte) (by decide)
  have F_b59_value : Fld Z h60 b59 "java/lang/String" "value" "[B" .null := D_b59 (Or.inr (hw _ (List.mem_of_getElem? (i := 29) rfl))) (ty := (.array .byte)) (by decide)
  refine s_dup X (pc' := 4) d18_3 rfl rfl ?_
  refine s_aloadN X (pc' := 5) d18_4 rfl rfl rfl ?_
  have S_k' : SBD Z h60 k t ds r := S_k.ext E61
  refine s_special X (pc' := 8) (W := 1) (as' := [(.ref k)]) (S := [(.ref b59)]) (k' := 2) (n' := 44) d18_5 rfl (hw _ (List.mem_of_getElem? (i := 110) rfl)) (hw _ (List.mem_of_getElem? (i := 111) rfl)) (hw _ (List.mem_of_getElem? (i := 112) rfl)) (by decide) own_pd16 rfl ((sb_s1 l Z a0 hw hEL b59 k _ S_k' hv hS hds g_b59 E_b59 F_b59_value F_b59_coder O2 P5).payS (by simp) (hw _ (List.mem_of_getElem? (i := 112) rfl)) (hw _ (List.mem_of_getElem? (i := 2) rfl)) hEL (by decide) (by decide)) (Nat.le_of_ble_eq_true rfl) rfl rfl (by decide) (by decide) (by decide) (by decide) rfl (fun T h62 v_ ws_ X hgr_ q63 => ?_)
  obtain ⟨rfl, K_, S_, rfl⟩ := q63
  show Go p e below _ T (mkF m 8 #[.val (.ref k)] [(.ref b59)])
  replace X := X.sub (ws' := [b59]) (by simp)
  replace R_ := ext_keep R_ K_ (allS sz_R__b59 all0)
  exact s_aret X hEL (ws' := []) (t := (.object "java/lang/String")) d18_8 rfl rfl rfl rfl (by decide) (by decide) (fun x q => by simp at q) ⟨b59, rfl, R_, S_, rfl⟩

def ngN (x : Int32) : Nat := if x < 0 then 1 else 0
theorem neg_toInt {x : Int32} (h : -2147483648 < x.toInt) : (-x).toInt = -x.toInt := by
  have q := c_ineg x
  have b1 := Int32.toInt_lt (-x); have b2 := Int32.le_toInt (-x); have b3 := Int32.toInt_lt x
  omega
theorem pow_le {a b : Nat} (h : a ≤ b) : (10 : Nat) ^ a ≤ 10 ^ b := Nat.pow_le_pow_right (by decide) h
theorem div_q {i : Int32} {n : Nat} (hi : i.toInt = -(n : Int)) : (i / (100 : Int32)).toInt = -((n / 100 : Nat) : Int) := by
  have q := c_idiv i 100 100 rfl (by decide)
  have b := Int32.le_toInt i
  by_cases z : i.toInt < 0
  · rw [q.2 z, hi]; omega
  · rw [q.1 (by omega)]; omega
theorem rem_r {i q : Int32} {n : Nat} (hi : i.toInt = -(n : Int)) (hq : q.toInt = -((n / 100 : Nat) : Int)) : q * (100 : Int32) - i = Int32.ofNat (n % 100) := by
  have b := Int32.le_toInt i
  have c1 := c_imul q 100
  have e1 : (100 : Int32).toInt = 100 := rfl
  rw [e1, hq] at c1
  have c2 := c_isub (q * (100 : Int32)) i
  have e2 : (Int32.ofNat (n % 100)).toInt = (n % 100 : Nat) := Int32.toInt_ofNat_of_lt (by omega)
  have b1 := Int32.toInt_lt (q * (100 : Int32) - i); have b2 := Int32.le_toInt (q * (100 : Int32) - i)
  rw [← Int32.toInt_inj, e2]
  rw [hi] at c2
  omega
theorem neg_on {i : Int32} {n : Nat} (hi : i.toInt = -(n : Int)) (hn : n < 100) : -i = Int32.ofNat n := by
  have e2 : (Int32.ofNat n).toInt = n := Int32.toInt_ofNat_of_lt (by omega)
  rw [← Int32.toInt_inj, neg_toInt (by omega), e2, hi]; omega
theorem on_pred {n : Nat} (h : 1 ≤ n) : Int32.ofNat n + (-1 : Int32) = Int32.ofNat (n - 1) := by
  obtain ⟨j, rfl⟩ : ∃ j, n = j + 1 := ⟨n - 1, by omega⟩
  rw [← on_succ j, Int32.add_assoc]
  show Int32.ofNat j + ((1 : Int32) + (-1 : Int32)) = _
  rw [show (1 : Int32) + (-1 : Int32) = 0 by decide]; simp
theorem on_pred2 {n : Nat} (h : 2 ≤ n) : Int32.ofNat n + (-1 : Int32) + (-1 : Int32) = Int32.ofNat (n - 2) := by
  rw [on_pred (by omega), on_pred (by omega)]; rfl
theorem ary_int {Z : State} {h : Heap} {a : Addr} {vs : List Value} {i : Nat} (A : Own.Ary Z h a .byte vs) (hi : i < vs.length) : ∃ z, vs[i]? = some (.int z) := by
  obtain ⟨cl, -, -, -, q⟩ := A
  have := q _ (List.getElem_mem hi)
  obtain ⟨z, hz⟩ := fit_I this (by simp)
  exact ⟨z, by rw [List.getElem?_eq_getElem hi, hz]⟩
theorem chr_of {v : Value} (h : fits .byte v = true) : ∃ c : Int32, (¬ c < 0 ∧ ¬ (255 : Int32) < c) ∧ Value.int c.toInt8.toInt32 = v := by
  obtain ⟨z, rfl⟩ := fit_I h (by simp)
  have hz : -128 ≤ z.toInt ∧ z.toInt ≤ 127 := by
    simp only [fits, Bool.and_eq_true, decide_eq_true_eq, Int32.le_iff_toInt_le, show (-128 : Int32).toInt = -128 from by decide, show (127 : Int32).toInt = 127 from by decide] at h
    exact h
  have q := c_mask z 255 8 (by decide) (by decide)
  have e3 : ((2 ^ 8 : Nat) : Int) = 256 := by decide
  rw [e3] at q
  have q2 := c_i2b (z &&& (255 : Int32))
  refine ⟨z &&& (255 : Int32), ?_, ?_⟩
  · have e0 : (0 : Int32).toInt = 0 := rfl
    have e1 : (255 : Int32).toInt = 255 := rfl
    rw [Int32.lt_iff_toInt_lt, Int32.lt_iff_toInt_lt, e0, e1, q]
    omega
  · congr 1
    rw [← Int32.toInt_inj]
    omega
theorem chars_of : ∀ vs : List Value, (∀ v ∈ vs, fits .byte v = true) → ∃ es : List Int32, Lat es ∧ bys es = vs
  | [], _ => ⟨[], (fun c hc => nomatch hc), rfl⟩
  | v :: vs, h => by
    obtain ⟨es, h1, h2⟩ := chars_of vs fun x hx => h x (List.mem_cons_of_mem _ hx)
    obtain ⟨c, h3, h4⟩ := chr_of (h v List.mem_cons_self)
    refine ⟨c :: es, fun x hx => (List.mem_cons.mp hx).elim (fun z => z ▸ h3) (h1 x), ?_⟩
    show Value.int c.toInt8.toInt32 :: bys es = _
    rw [h4, h2]
theorem Lat.take {es : List Int32} (q : Lat es) (n : Nat) : Lat (es.take n) := fun c hc => q c (List.mem_of_mem_take hc)
/-- Integer's two tables of digits -/
def Digs (Z : State) (dO dT : Addr) (vO vT : List Value) : Prop := Sta Z Z.heap "java/lang/Integer" "DigitOnes" "[B" (.ref dO) ∧ Sta Z Z.heap "java/lang/Integer" "DigitTens" "[B" (.ref dT) ∧ Own.Ary Z Z.heap dO .byte vO ∧ Own.Ary Z Z.heap dT .byte vT ∧ vO.length = 100 ∧ vT.length = 100
theorem d56_0 : decode jdk_33_method_13_code 0 = .ok (.iconst 1, 1) := by decide +kernel
theorem d56_1 : decode jdk_33_method_13_code 1 = .ok (.istore_n 1, 1) := by decide +kernel
theorem d56_2 : decode jdk_33_method_13_code 2 = .ok (.iload_n 0, 1) := by decide +kernel
theorem d56_3 : decode jdk_33_method_13_code 3 = .ok (.ifCond .lt 8, 3) := by decide +kernel
theorem d56_6 : decode jdk_33_method_13_code 6 = .ok (.iconst 0, 1) := by decide +kernel
theorem d56_7 : decode jdk_33_method_13_code 7 = .ok (.istore_n 1, 1) := by decide +kernel
theorem d56_8 : decode jdk_33_method_13_code 8 = .ok (.iload_n 0, 1) := by decide +kernel
theorem d56_9 : decode jdk_33_method_13_code 9 = .ok (.ineg, 1) := by decide +kernel
theorem d56_10 : decode jdk_33_method_13_code 10 = .ok (.istore_n 0, 1) := by decide +kernel
theorem d56_11 : decode jdk_33_method_13_code 11 = .ok (.bipush (-10), 2) := by decide +kernel
theorem d56_13 : decode jdk_33_method_13_code 13 = .ok (.istore_n 2, 1) := by decide +kernel
theorem d56_14 : decode jdk_33_method_13_code 14 = .ok (.iconst 1, 1) := by decide +kernel
theorem d56_15 : decode jdk_33_method_13_code 15 = .ok (.istore_n 3, 1) := by decide +kernel
theorem d56_16 : decode jdk_33_method_13_code 16 = .ok (.iload_n 3, 1) := by decide +kernel
theorem d56_17 : decode jdk_33_method_13_code 17 = .ok (.bipush 10, 2) := by decide +kernel
theorem d56_19 : decode jdk_33_method_13_code 19 = .ok (.if_icmp .ge 23, 3) := by decide +kernel
theorem d56_22 : decode jdk_33_method_13_code 22 = .ok (.iload_n 0, 1) := by decide +kernel
theorem d56_23 : decode jdk_33_method_13_code 23 = .ok (.iload_n 2, 1) := by decide +kernel
theorem d56_24 : decode jdk_33_method_13_code 24 = .ok (.if_icmp .le 7, 3) := by decide +kernel
theorem d56_27 : decode jdk_33_method_13_code 27 = .ok (.iload_n 3, 1) := by decide +kernel
theorem d56_28 : decode jdk_33_method_13_code 28 = .ok (.iload_n 1, 1) := by decide +kernel
theorem d56_29 : decode jdk_33_method_13_code 29 = .ok (.iadd, 1) := by decide +kernel
theorem d56_30 : decode jdk_33_method_13_code 30 = .ok (.ireturn, 1) := by decide +kernel
theorem d56_31 : decode jdk_33_method_13_code 31 = .ok (.bipush 10, 2) := by decide +kernel
theorem d56_33 : decode jdk_33_method_13_code 33 = .ok (.iload_n 2, 1) := by decide +kernel
theorem d56_34 : decode jdk_33_method_13_code 34 = .ok (.imul, 1) := by decide +kernel
theorem d56_35 : decode jdk_33_method_13_code 35 = .ok (.istore_n 2, 1) := by decide +kernel
theorem d56_36 : decode jdk_33_method_13_code 36 = .ok (.iinc 3 1, 3) := by decide +kernel
theorem d56_39 : decode jdk_33_method_13_code 39 = .ok (.goto (-23), 3) := by decide +kernel
theorem d56_42 : decode jdk_33_method_13_code 42 = .ok (.bipush 10, 2) := by decide +kernel
theorem d56_44 : decode jdk_33_method_13_code 44 = .ok (.iload_n 1, 1) := by decide +kernel
theorem d56_45 : decode jdk_33_method_13_code 45 = .ok (.iadd, 1) := by decide +kernel
theorem d56_46 : decode jdk_33_method_13_code 46 = .ok (.ireturn, 1) := by decide +kernel
theorem ef_sb_ss (m : MethodId) (x : Int32) : entryFrame m #[(.int x)] 4 = mkF m 0 #[.val (.int x), .unset, .unset, .unset] [] := by first | (simp [entryFrame, mkF, argsToLocals, Value.category]; done) | rfl
set_option maxRecDepth 65536 in
set_option maxHeartbeats 40000000 in
theorem sb_ss (l : Launch) (Z : State) (a0 : Array Value) (hw : ∀ d ∈ tables_1, d.before a0 Z = true) (hEL : EW Z a0 consts_1) (x : Int32) (h : Heap)  :
    Con l Z consts_1 True (⟨"java/lang/Integer", "stringSize", "(I)I"⟩ : MethodName) jdk_33_method_13_code 4 (some .int) ({ frames := 0, cells := 0, slots := 0, locals := 0 } : Room) [] #[(.int x)] h (fun v h' ws' => ∃ sz md : Nat, v = some (.int (Int32.ofNat sz)) ∧ sz = md + ngN x ∧ 1 ≤ md ∧ md ≤ 10 ∧ x.toInt.natAbs < 10 ^ md ∧ h' = h ∧ ws' = []) := by
  refine Con.intro own_pn24 (fun p e s m below meth c T X => ?_)
  rw [ef_sb_ss m x]
  have bl := Int32.le_toInt x
  have bu := Int32.toInt_lt x
  have z0 : (0 : Int32).toInt = 0 := rfl
  refine s_iconst X (pc' := 1) d56_0 (v := (1 : Int32)) rfl rfl ?_
  refine s_istoreN X (pc' := 2) (L' := #[.val (.int x), .val (.int (1 : Int32)), .unset, .unset]) d56_1 rfl rfl ?_
  refine s_iloadN X (pc' := 3) d56_2 rfl rfl ?_
  refine s_if X (pc' := 11) (pcF := 6) d56_3 (by decide) (by decide) rfl (fun (q0 : x < (0 : Int32)) => ?_) (fun (q0 : ¬ x < (0 : Int32)) => ?_)
  · have ng : ngN x = 1 := by unfold ngN; rw [if_pos q0]
    rw [Int32.lt_iff_toInt_lt, z0] at q0
    have hx0 : x.toInt = -(x.toInt.natAbs : Int) := by omega
    refine s_bipush X (pc' := 13) d56_11 (v := (-10 : Int32)) (by decide) rfl ?_
    refine s_istoreN X (pc' := 14) (L' := #[.val (.int x), .val (.int (1 : Int32)), .val (.int (-10 : Int32)), .unset]) d56_13 rfl rfl ?_
    refine s_iconst X (pc' := 15) d56_14 (v := (1 : Int32)) rfl rfl ?_
    refine s_istoreN X (pc' := 16) (L' := #[.val (.int x), .val (.int (1 : Int32)), .val (.int (-10 : Int32)), .val (.int (1 : Int32))]) d56_15 rfl rfl ?_
    refine s_iloadN X (pc' := 17) d56_16 rfl rfl ?_
    refine s_bipush X (pc' := 19) d56_17 (v := (10 : Int32)) (by decide) rfl ?_
    refine s_icmpF X (pc' := 22) d56_19 (show (1 : Int32) < (10 : Int32) by decide) rfl ?_
    refine s_iloadN X (pc' := 23) d56_22 rfl rfl ?_
    refine s_iloadN X (pc' := 24) d56_23 rfl rfl ?_
    refine s_icmp X (pc' := 31) (pcF := 27) d56_24 (by decide) (by decide) rfl (fun (r1 : ¬ (-10 : Int32) < x) => ?_) (fun (r1 : (-10 : Int32) < x) => ?_)
    · refine s_bipush X (pc' := 33) d56_31 (v := (10 : Int32)) (by decide) rfl ?_
      refine s_iloadN X (pc' := 34) d56_33 rfl rfl ?_
      refine s_imul X (pc' := 35) d56_34 rfl ?_
      refine go_int (z := (-100 : Int32)) (by decide) ?_
      refine s_istoreN X (pc' := 36) (L' := #[.val (.int x), .val (.int (1 : Int32)), .val (.int (-100 : Int32)), .val (.int (1 : Int32))]) d56_35 rfl rfl ?_
      refine s_iinc X (pc' := 39) (L' := #[.val (.int x), .val (.int (1 : Int32)), .val (.int (-100 : Int32)), .val (.int (2 : Int32))]) d56_36 (v := (1 : Int32)) (by decide) rfl rfl rfl ?_
      refine s_goto X (pc' := 16) d56_39 (by decide) (by decide) ?_
      refine s_iloadN X (pc' := 17) d56_16 rfl rfl ?_
      refine s_bipush X (pc' := 19) d56_17 (v := (10 : Int32)) (by decide) rfl ?_
      refine s_icmpF X (pc' := 22) d56_19 (show (2 : Int32) < (10 : Int32) by decide) rfl ?_
      refine s_iloadN X (pc' := 23) d56_22 rfl rfl ?_
      refine s_iloadN X (pc' := 24) d56_23 rfl rfl ?_
      refine s_icmp X (pc' := 31) (pcF := 27) d56_24 (by decide) (by decide) rfl (fun (r2 : ¬ (-100 : Int32) < x) => ?_) (fun (r2 : (-100 : Int32) < x) => ?_)
      · refine s_bipush X (pc' := 33) d56_31 (v := (10 : Int32)) (by decide) rfl ?_
        refine s_iloadN X (pc' := 34) d56_33 rfl rfl ?_
        refine s_imul X (pc' := 35) d56_34 rfl ?_
        refine go_int (z := (-1000 : Int32)) (by decide) ?_
        refine s_istoreN X (pc' := 36) (L' := #[.val (.int x), .val (.int (1 : Int32)), .val (.int (-1000 : Int32)), .val (.int (2 : Int32))]) d56_35 rfl rfl ?_
        refine s_iinc X (pc' := 39) (L' := #[.val (.int x), .val (.int (1 : Int32)), .val (.int (-1000 : Int32)), .val (.int (3 : Int32))]) d56_36 (v := (1 : Int32)) (by decide) rfl rfl rfl ?_
        refine s_goto X (pc' := 16) d56_39 (by decide) (by decide) ?_
        refine s_iloadN X (pc' := 17) d56_16 rfl rfl ?_
        refine s_bipush X (pc' := 19) d56_17 (v := (10 : Int32)) (by decide) rfl ?_
        refine s_icmpF X (pc' := 22) d56_19 (show (3 : Int32) < (10 : Int32) by decide) rfl ?_
        refine s_iloadN X (pc' := 23) d56_22 rfl rfl ?_
        refine s_iloadN X (pc' := 24) d56_23 rfl rfl ?_
        refine s_icmp X (pc' := 31) (pcF := 27) d56_24 (by decide) (by decide) rfl (fun (r3 : ¬ (-1000 : Int32) < x) => ?_) (fun (r3 : (-1000 : Int32) < x) => ?_)
        · refine s_bipush X (pc' := 33) d56_31 (v := (10 : Int32)) (by decide) rfl ?_
          refine s_iloadN X (pc' := 34) d56_33 rfl rfl ?_
          refine s_imul X (pc' := 35) d56_34 rfl ?_
          refine go_int (z := (-10000 : Int32)) (by decide) ?_
          refine s_istoreN X (pc' := 36) (L' := #[.val (.int x), .val (.int (1 : Int32)), .val (.int (-10000 : Int32)), .val (.int (3 : Int32))]) d56_35 rfl rfl ?_
          refine s_iinc X (pc' := 39) (L' := #[.val (.int x), .val (.int (1 : Int32)), .val (.int (-10000 : Int32)), .val (.int (4 : Int32))]) d56_36 (v := (1 : Int32)) (by decide) rfl rfl rfl ?_
          refine s_goto X (pc' := 16) d56_39 (by decide) (by decide) ?_
          refine s_iloadN X (pc' := 17) d56_16 rfl rfl ?_
          refine s_bipush X (pc' := 19) d56_17 (v := (10 : Int32)) (by decide) rfl ?_
          refine s_icmpF X (pc' := 22) d56_19 (show (4 : Int32) < (10 : Int32) by decide) rfl ?_
          refine s_iloadN X (pc' := 23) d56_22 rfl rfl ?_
          refine s_iloadN X (pc' := 24) d56_23 rfl rfl ?_
          refine s_icmp X (pc' := 31) (pcF := 27) d56_24 (by decide) (by decide) rfl (fun (r4 : ¬ (-10000 : Int32) < x) => ?_) (fun (r4 : (-10000 : Int32) < x) => ?_)
          · refine s_bipush X (pc' := 33) d56_31 (v := (10 : Int32)) (by decide) rfl ?_
            refine s_iloadN X (pc' := 34) d56_33 rfl rfl ?_
            refine s_imul X (pc' := 35) d56_34 rfl ?_
            refine go_int (z := (-100000 : Int32)) (by decide) ?_
            refine s_istoreN X (pc' := 36) (L' := #[.val (.int x), .val (.int (1 : Int32)), .val (.int (-100000 : Int32)), .val (.int (4 : Int32))]) d56_35 rfl rfl ?_
            refine s_iinc X (pc' := 39) (L' := #[.val (.int x), .val (.int (1 : Int32)), .val (.int (-100000 : Int32)), .val (.int (5 : Int32))]) d56_36 (v := (1 : Int32)) (by decide) rfl rfl rfl ?_
            refine s_goto X (pc' := 16) d56_39 (by decide) (by decide) ?_
            refine s_iloadN X (pc' := 17) d56_16 rfl rfl ?_
            refine s_bipush X (pc' := 19) d56_17 (v := (10 : Int32)) (by decide) rfl ?_
            refine s_icmpF X (pc' := 22) d56_19 (show (5 : Int32) < (10 : Int32) by decide) rfl ?_
            refine s_iloadN X (pc' := 23) d56_22 rfl rfl ?_
            refine s_iloadN X (pc' := 24) d56_23 rfl rfl ?_
            refine s_icmp X (pc' := 31) (pcF := 27) d56_24 (by decide) (by decide) rfl (fun (r5 : ¬ (-100000 : Int32) < x) => ?_) (fun (r5 : (-100000 : Int32) < x) => ?_)
            · refine s_bipush X (pc' := 33) d56_31 (v := (10 : Int32)) (by decide) rfl ?_
              refine s_iloadN X (pc' := 34) d56_33 rfl rfl ?_
              refine s_imul X (pc' := 35) d56_34 rfl ?_
              refine go_int (z := (-1000000 : Int32)) (by decide) ?_
              refine s_istoreN X (pc' := 36) (L' := #[.val (.int x), .val (.int (1 : Int32)), .val (.int (-1000000 : Int32)), .val (.int (5 : Int32))]) d56_35 rfl rfl ?_
              refine s_iinc X (pc' := 39) (L' := #[.val (.int x), .val (.int (1 : Int32)), .val (.int (-1000000 : Int32)), .val (.int (6 : Int32))]) d56_36 (v := (1 : Int32)) (by decide) rfl rfl rfl ?_
              refine s_goto X (pc' := 16) d56_39 (by decide) (by decide) ?_
              refine s_iloadN X (pc' := 17) d56_16 rfl rfl ?_
              refine s_bipush X (pc' := 19) d56_17 (v := (10 : Int32)) (by decide) rfl ?_
              refine s_icmpF X (pc' := 22) d56_19 (show (6 : Int32) < (10 : Int32) by decide) rfl ?_
              refine s_iloadN X (pc' := 23) d56_22 rfl rfl ?_
              refine s_iloadN X (pc' := 24) d56_23 rfl rfl ?_
              refine s_icmp X (pc' := 31) (pcF := 27) d56_24 (by decide) (by decide) rfl (fun (r6 : ¬ (-1000000 : Int32) < x) => ?_) (fun (r6 : (-1000000 : Int32) < x) => ?_)
              · refine s_bipush X (pc' := 33) d56_31 (v := (10 : Int32)) (by decide) rfl ?_
                refine s_iloadN X (pc' := 34) d56_33 rfl rfl ?_
                refine s_imul X (pc' := 35) d56_34 rfl ?_
                refine go_int (z := (-10000000 : Int32)) (by decide) ?_
                refine s_istoreN X (pc' := 36) (L' := #[.val (.int x), .val (.int (1 : Int32)), .val (.int (-10000000 : Int32)), .val (.int (6 : Int32))]) d56_35 rfl rfl ?_
                refine s_iinc X (pc' := 39) (L' := #[.val (.int x), .val (.int (1 : Int32)), .val (.int (-10000000 : Int32)), .val (.int (7 : Int32))]) d56_36 (v := (1 : Int32)) (by decide) rfl rfl rfl ?_
                refine s_goto X (pc' := 16) d56_39 (by decide) (by decide) ?_
                refine s_iloadN X (pc' := 17) d56_16 rfl rfl ?_
                refine s_bipush X (pc' := 19) d56_17 (v := (10 : Int32)) (by decide) rfl ?_
                refine s_icmpF X (pc' := 22) d56_19 (show (7 : Int32) < (10 : Int32) by decide) rfl ?_
                refine s_iloadN X (pc' := 23) d56_22 rfl rfl ?_
                refine s_iloadN X (pc' := 24) d56_23 rfl rfl ?_
                refine s_icmp X (pc' := 31) (pcF := 27) d56_24 (by decide) (by decide) rfl (fun (r7 : ¬ (-10000000 : Int32) < x) => ?_) (fun (r7 : (-10000000 : Int32) < x) => ?_)
                · refine s_bipush X (pc' := 33) d56_31 (v := (10 : Int32)) (by decide) rfl ?_
                  refine s_iloadN X (pc' := 34) d56_33 rfl rfl ?_
                  refine s_imul X (pc' := 35) d56_34 rfl ?_
                  refine go_int (z := (-100000000 : Int32)) (by decide) ?_
                  refine s_istoreN X (pc' := 36) (L' := #[.val (.int x), .val (.int (1 : Int32)), .val (.int (-100000000 : Int32)), .val (.int (7 : Int32))]) d56_35 rfl rfl ?_
                  refine s_iinc X (pc' := 39) (L' := #[.val (.int x), .val (.int (1 : Int32)), .val (.int (-100000000 : Int32)), .val (.int (8 : Int32))]) d56_36 (v := (1 : Int32)) (by decide) rfl rfl rfl ?_
                  refine s_goto X (pc' := 16) d56_39 (by decide) (by decide) ?_
                  refine s_iloadN X (pc' := 17) d56_16 rfl rfl ?_
                  refine s_bipush X (pc' := 19) d56_17 (v := (10 : Int32)) (by decide) rfl ?_
                  refine s_icmpF X (pc' := 22) d56_19 (show (8 : Int32) < (10 : Int32) by decide) rfl ?_
                  refine s_iloadN X (pc' := 23) d56_22 rfl rfl ?_
                  refine s_iloadN X (pc' := 24) d56_23 rfl rfl ?_
                  refine s_icmp X (pc' := 31) (pcF := 27) d56_24 (by decide) (by decide) rfl (fun (r8 : ¬ (-100000000 : Int32) < x) => ?_) (fun (r8 : (-100000000 : Int32) < x) => ?_)
                  · refine s_bipush X (pc' := 33) d56_31 (v := (10 : Int32)) (by decide) rfl ?_
                    refine s_iloadN X (pc' := 34) d56_33 rfl rfl ?_
                    refine s_imul X (pc' := 35) d56_34 rfl ?_
                    refine go_int (z := (-1000000000 : Int32)) (by decide) ?_
                    refine s_istoreN X (pc' := 36) (L' := #[.val (.int x), .val (.int (1 : Int32)), .val (.int (-1000000000 : Int32)), .val (.int (8 : Int32))]) d56_35 rfl rfl ?_
                    refine s_iinc X (pc' := 39) (L' := #[.val (.int x), .val (.int (1 : Int32)), .val (.int (-1000000000 : Int32)), .val (.int (9 : Int32))]) d56_36 (v := (1 : Int32)) (by decide) rfl rfl rfl ?_
                    refine s_goto X (pc' := 16) d56_39 (by decide) (by decide) ?_
                    refine s_iloadN X (pc' := 17) d56_16 rfl rfl ?_
                    refine s_bipush X (pc' := 19) d56_17 (v := (10 : Int32)) (by decide) rfl ?_
                    refine s_icmpF X (pc' := 22) d56_19 (show (9 : Int32) < (10 : Int32) by decide) rfl ?_
                    refine s_iloadN X (pc' := 23) d56_22 rfl rfl ?_
                    refine s_iloadN X (pc' := 24) d56_23 rfl rfl ?_
                    refine s_icmp X (pc' := 31) (pcF := 27) d56_24 (by decide) (by decide) rfl (fun (r9 : ¬ (-1000000000 : Int32) < x) => ?_) (fun (r9 : (-1000000000 : Int32) < x) => ?_)
                    · refine s_bipush X (pc' := 33) d56_31 (v := (10 : Int32)) (by decide) rfl ?_
                      refine s_iloadN X (pc' := 34) d56_33 rfl rfl ?_
                      refine s_imul X (pc' := 35) d56_34 rfl ?_
                      refine go_int (z := (-1410065408 : Int32)) (by decide) ?_
                      refine s_istoreN X (pc' := 36) (L' := #[.val (.int x), .val (.int (1 : Int32)), .val (.int (-1410065408 : Int32)), .val (.int (9 : Int32))]) d56_35 rfl rfl ?_
                      refine s_iinc X (pc' := 39) (L' := #[.val (.int x), .val (.int (1 : Int32)), .val (.int (-1410065408 : Int32)), .val (.int (10 : Int32))]) d56_36 (v := (1 : Int32)) (by decide) rfl rfl rfl ?_
                      refine s_goto X (pc' := 16) d56_39 (by decide) (by decide) ?_
                      refine s_iloadN X (pc' := 17) d56_16 rfl rfl ?_
                      refine s_bipush X (pc' := 19) d56_17 (v := (10 : Int32)) (by decide) rfl ?_
                      refine s_icmpT X (pc' := 42) d56_19 (show ¬ (10 : Int32) < (10 : Int32) by decide) (by decide) (by decide) ?_
                      refine s_bipush X (pc' := 44) d56_42 (v := (10 : Int32)) (by decide) rfl ?_
                      refine s_iloadN X (pc' := 45) d56_44 rfl rfl ?_
                      refine s_iadd X (pc' := 46) d56_45 rfl ?_
                      refine go_int (z := (Int32.ofNat 11)) (by decide) ?_
                      have hpw : x.toInt.natAbs < 10 ^ 10 := by
                        have : (10 : Nat) ^ 10 = 10000000000 := by decide
                        omega
                      exact s_iret X hEL (ws' := []) d56_46 (by decide) (by decide) (fun x q => by simp at q) ⟨11, 10, rfl, (by rw [ng]), by decide, by decide, hpw, rfl, rfl⟩
                    · have pv : (-1000000000 : Int32).toInt = -1000000000 := rfl
                      rw [Int32.lt_iff_toInt_lt, pv, hx0] at r9
                      refine s_iloadN X (pc' := 28) d56_27 rfl rfl ?_
                      refine s_iloadN X (pc' := 29) d56_28 rfl rfl ?_
                      refine s_iadd X (pc' := 30) d56_29 rfl ?_
                      refine go_int (z := (Int32.ofNat 10)) (by decide) ?_
                      have hpw : x.toInt.natAbs < 10 ^ 9 := by
                        have : (10 : Nat) ^ 9 = 1000000000 := by decide
                        omega
                      exact s_iret X hEL (ws' := []) d56_30 (by decide) (by decide) (fun x q => by simp at q) ⟨10, 9, rfl, (by rw [ng]), by decide, by decide, hpw, rfl, rfl⟩
                  · have pv : (-100000000 : Int32).toInt = -100000000 := rfl
                    rw [Int32.lt_iff_toInt_lt, pv, hx0] at r8
                    refine s_iloadN X (pc' := 28) d56_27 rfl rfl ?_
                    refine s_iloadN X (pc' := 29) d56_28 rfl rfl ?_
                    refine s_iadd X (pc' := 30) d56_29 rfl ?_
                    refine go_int (z := (Int32.ofNat 9)) (by decide) ?_
                    have hpw : x.toInt.natAbs < 10 ^ 8 := by
                      have : (10 : Nat) ^ 8 = 100000000 := by decide
                      omega
                    exact s_iret X hEL (ws' := []) d56_30 (by decide) (by decide) (fun x q => by simp at q) ⟨9, 8, rfl, (by rw [ng]), by decide, by decide, hpw, rfl, rfl⟩
                · have pv : (-10000000 : Int32).toInt = -10000000 := rfl
                  rw [Int32.lt_iff_toInt_lt, pv, hx0] at r7
                  refine s_iloadN X (pc' := 28) d56_27 rfl rfl ?_
                  refine s_iloadN X (pc' := 29) d56_28 rfl rfl ?_
                  refine s_iadd X (pc' := 30) d56_29 rfl ?_
                  refine go_int (z := (Int32.ofNat 8)) (by decide) ?_
                  have hpw : x.toInt.natAbs < 10 ^ 7 := by
                    have : (10 : Nat) ^ 7 = 10000000 := by decide
                    omega
                  exact s_iret X hEL (ws' := []) d56_30 (by decide) (by decide) (fun x q => by simp at q) ⟨8, 7, rfl, (by rw [ng]), by decide, by decide, hpw, rfl, rfl⟩
              · have pv : (-1000000 : Int32).toInt = -1000000 := rfl
                rw [Int32.lt_iff_toInt_lt, pv, hx0] at r6
                refine s_iloadN X (pc' := 28) d56_27 rfl rfl ?_
                refine s_iloadN X (pc' := 29) d56_28 rfl rfl ?_
                refine s_iadd X (pc' := 30) d56_29 rfl ?_
                refine go_int (z := (Int32.ofNat 7)) (by decide) ?_
                have hpw : x.toInt.natAbs < 10 ^ 6 := by
                  have : (10 : Nat) ^ 6 = 1000000 := by decide
                  omega
                exact s_iret X hEL (ws' := []) d56_30 (by decide) (by decide) (fun x q => by simp at q) ⟨7, 6, rfl, (by rw [ng]), by decide, by decide, hpw, rfl, rfl⟩
            · have pv : (-100000 : Int32).toInt = -100000 := rfl
              rw [Int32.lt_iff_toInt_lt, pv, hx0] at r5
              refine s_iloadN X (pc' := 28) d56_27 rfl rfl ?_
              refine s_iloadN X (pc' := 29) d56_28 rfl rfl ?_
              refine s_iadd X (pc' := 30) d56_29 rfl ?_
              refine go_int (z := (Int32.ofNat 6)) (by decide) ?_
              have hpw : x.toInt.natAbs < 10 ^ 5 := by
                have : (10 : Nat) ^ 5 = 100000 := by decide
                omega
              exact s_iret X hEL (ws' := []) d56_30 (by decide) (by decide) (fun x q => by simp at q) ⟨6, 5, rfl, (by rw [ng]), by decide, by decide, hpw, rfl, rfl⟩
          · have pv : (-10000 : Int32).toInt = -10000 := rfl
            rw [Int32.lt_iff_toInt_lt, pv, hx0] at r4
            refine s_iloadN X (pc' := 28) d56_27 rfl rfl ?_
            refine s_iloadN X (pc' := 29) d56_28 rfl rfl ?_
            refine s_iadd X (pc' := 30) d56_29 rfl ?_
            refine go_int (z := (Int32.ofNat 5)) (by decide) ?_
            have hpw : x.toInt.natAbs < 10 ^ 4 := by
              have : (10 : Nat) ^ 4 = 10000 := by decide
              omega
            exact s_iret X hEL (ws' := []) d56_30 (by decide) (by decide) (fun x q => by simp at q) ⟨5, 4, rfl, (by rw [ng]), by decide, by decide, hpw, rfl, rfl⟩
        · have pv : (-1000 : Int32).toInt = -1000 := rfl
          rw [Int32.lt_iff_toInt_lt, pv, hx0] at r3
          refine s_iloadN X (pc' := 28) d56_27 rfl rfl ?_
          refine s_iloadN X (pc' := 29) d56_28 rfl rfl ?_
          refine s_iadd X (pc' := 30) d56_29 rfl ?_
          refine go_int (z := (Int32.ofNat 4)) (by decide) ?_
          have hpw : x.toInt.natAbs < 10 ^ 3 := by
            have : (10 : Nat) ^ 3 = 1000 := by decide
            omega
          exact s_iret X hEL (ws' := []) d56_30 (by decide) (by decide) (fun x q => by simp at q) ⟨4, 3, rfl, (by rw [ng]), by decide, by decide, hpw, rfl, rfl⟩
      · have pv : (-100 : Int32).toInt = -100 := rfl
        rw [Int32.lt_iff_toInt_lt, pv, hx0] at r2
        refine s_iloadN X (pc' := 28) d56_27 rfl rfl ?_
        refine s_iloadN X (pc' := 29) d56_28 rfl rfl ?_
        refine s_iadd X (pc' := 30) d56_29 rfl ?_
        refine go_int (z := (Int32.ofNat 3)) (by decide) ?_
        have hpw : x.toInt.natAbs < 10 ^ 2 := by
          have : (10 : Nat) ^ 2 = 100 := by decide
          omega
        exact s_iret X hEL (ws' := []) d56_30 (by decide) (by decide) (fun x q => by simp at q) ⟨3, 2, rfl, (by rw [ng]), by decide, by decide, hpw, rfl, rfl⟩
    · have pv : (-10 : Int32).toInt = -10 := rfl
      rw [Int32.lt_iff_toInt_lt, pv, hx0] at r1
      refine s_iloadN X (pc' := 28) d56_27 rfl rfl ?_
      refine s_iloadN X (pc' := 29) d56_28 rfl rfl ?_
      refine s_iadd X (pc' := 30) d56_29 rfl ?_
      refine go_int (z := (Int32.ofNat 2)) (by decide) ?_
      have hpw : x.toInt.natAbs < 10 ^ 1 := by
        have : (10 : Nat) ^ 1 = 10 := by decide
        omega
      exact s_iret X hEL (ws' := []) d56_30 (by decide) (by decide) (fun x q => by simp at q) ⟨2, 1, rfl, (by rw [ng]), by decide, by decide, hpw, rfl, rfl⟩
  · have ng : ngN x = 0 := by unfold ngN; rw [if_neg q0]
    rw [Int32.lt_iff_toInt_lt, z0] at q0
    have hx0 : (-x).toInt = -(x.toInt.natAbs : Int) := by rw [neg_toInt (by omega)]; omega
    refine s_iconst X (pc' := 7) d56_6 (v := (0 : Int32)) rfl rfl ?_
    refine s_istoreN X (pc' := 8) (L' := #[.val (.int x), .val (.int (0 : Int32)), .unset, .unset]) d56_7 rfl rfl ?_
    refine s_iloadN X (pc' := 9) d56_8 rfl rfl ?_
    refine s_ineg X (pc' := 10) d56_9 rfl ?_
    refine s_istoreN X (pc' := 11) (L' := #[.val (.int (-x)), .val (.int (0 : Int32)), .unset, .unset]) d56_10 rfl rfl ?_
    refine s_bipush X (pc' := 13) d56_11 (v := (-10 : Int32)) (by decide) rfl ?_
    refine s_istoreN X (pc' := 14) (L' := #[.val (.int (-x)), .val (.int (0 : Int32)), .val (.int (-10 : Int32)), .unset]) d56_13 rfl rfl ?_
    refine s_iconst X (pc' := 15) d56_14 (v := (1 : Int32)) rfl rfl ?_
    refine s_istoreN X (pc' := 16) (L' := #[.val (.int (-x)), .val (.int (0 : Int32)), .val (.int (-10 : Int32)), .val (.int (1 : Int32))]) d56_15 rfl rfl ?_
    refine s_iloadN X (pc' := 17) d56_16 rfl rfl ?_
    refine s_bipush X (pc' := 19) d56_17 (v := (10 : Int32)) (by decide) rfl ?_
    refine s_icmpF X (pc' := 22) d56_19 (show (1 : Int32) < (10 : Int32) by decide) rfl ?_
    refine s_iloadN X (pc' := 23) d56_22 rfl rfl ?_
    refine s_iloadN X (pc' := 24) d56_23 rfl rfl ?_
    refine s_icmp X (pc' := 31) (pcF := 27) d56_24 (by decide) (by decide) rfl (fun (r1 : ¬ (-10 : Int32) < (-x)) => ?_) (fun (r1 : (-10 : Int32) < (-x)) => ?_)
    · refine s_bipush X (pc' := 33) d56_31 (v := (10 : Int32)) (by decide) rfl ?_
      refine s_iloadN X (pc' := 34) d56_33 rfl rfl ?_
      refine s_imul X (pc' := 35) d56_34 rfl ?_
      refine go_int (z := (-100 : Int32)) (by decide) ?_
      refine s_istoreN X (pc' := 36) (L' := #[.val (.int (-x)), .val (.int (0 : Int32)), .val (.int (-100 : Int32)), .val (.int (1 : Int32))]) d56_35 rfl rfl ?_
      refine s_iinc X (pc' := 39) (L' := #[.val (.int (-x)), .val (.int (0 : Int32)), .val (.int (-100 : Int32)), .val (.int (2 : Int32))]) d56_36 (v := (1 : Int32)) (by decide) rfl rfl rfl ?_
      refine s_goto X (pc' := 16) d56_39 (by decide) (by decide) ?_
      refine s_iloadN X (pc' := 17) d56_16 rfl rfl ?_
      refine s_bipush X (pc' := 19) d56_17 (v := (10 : Int32)) (by decide) rfl ?_
      refine s_icmpF X (pc' := 22) d56_19 (show (2 : Int32) < (10 : Int32) by decide) rfl ?_
      refine s_iloadN X (pc' := 23) d56_22 rfl rfl ?_
      refine s_iloadN X (pc' := 24) d56_23 rfl rfl ?_
      refine s_icmp X (pc' := 31) (pcF := 27) d56_24 (by decide) (by decide) rfl (fun (r2 : ¬ (-100 : Int32) < (-x)) => ?_) (fun (r2 : (-100 : Int32) < (-x)) => ?_)
      · refine s_bipush X (pc' := 33) d56_31 (v := (10 : Int32)) (by decide) rfl ?_
        refine s_iloadN X (pc' := 34) d56_33 rfl rfl ?_
        refine s_imul X (pc' := 35) d56_34 rfl ?_
        refine go_int (z := (-1000 : Int32)) (by decide) ?_
        refine s_istoreN X (pc' := 36) (L' := #[.val (.int (-x)), .val (.int (0 : Int32)), .val (.int (-1000 : Int32)), .val (.int (2 : Int32))]) d56_35 rfl rfl ?_
        refine s_iinc X (pc' := 39) (L' := #[.val (.int (-x)), .val (.int (0 : Int32)), .val (.int (-1000 : Int32)), .val (.int (3 : Int32))]) d56_36 (v := (1 : Int32)) (by decide) rfl rfl rfl ?_
        refine s_goto X (pc' := 16) d56_39 (by decide) (by decide) ?_
        refine s_iloadN X (pc' := 17) d56_16 rfl rfl ?_
        refine s_bipush X (pc' := 19) d56_17 (v := (10 : Int32)) (by decide) rfl ?_
        refine s_icmpF X (pc' := 22) d56_19 (show (3 : Int32) < (10 : Int32) by decide) rfl ?_
        refine s_iloadN X (pc' := 23) d56_22 rfl rfl ?_
        refine s_iloadN X (pc' := 24) d56_23 rfl rfl ?_
        refine s_icmp X (pc' := 31) (pcF := 27) d56_24 (by decide) (by decide) rfl (fun (r3 : ¬ (-1000 : Int32) < (-x)) => ?_) (fun (r3 : (-1000 : Int32) < (-x)) => ?_)
        · refine s_bipush X (pc' := 33) d56_31 (v := (10 : Int32)) (by decide) rfl ?_
          refine s_iloadN X (pc' := 34) d56_33 rfl rfl ?_
          refine s_imul X (pc' := 35) d56_34 rfl ?_
          refine go_int (z := (-10000 : Int32)) (by decide) ?_
          refine s_istoreN X (pc' := 36) (L' := #[.val (.int (-x)), .val (.int (0 : Int32)), .val (.int (-10000 : Int32)), .val (.int (3 : Int32))]) d56_35 rfl rfl ?_
          refine s_iinc X (pc' := 39) (L' := #[.val (.int (-x)), .val (.int (0 : Int32)), .val (.int (-10000 : Int32)), .val (.int (4 : Int32))]) d56_36 (v := (1 : Int32)) (by decide) rfl rfl rfl ?_
          refine s_goto X (pc' := 16) d56_39 (by decide) (by decide) ?_
          refine s_iloadN X (pc' := 17) d56_16 rfl rfl ?_
          refine s_bipush X (pc' := 19) d56_17 (v := (10 : Int32)) (by decide) rfl ?_
          refine s_icmpF X (pc' := 22) d56_19 (show (4 : Int32) < (10 : Int32) by decide) rfl ?_
          refine s_iloadN X (pc' := 23) d56_22 rfl rfl ?_
          refine s_iloadN X (pc' := 24) d56_23 rfl rfl ?_
          refine s_icmp X (pc' := 31) (pcF := 27) d56_24 (by decide) (by decide) rfl (fun (r4 : ¬ (-10000 : Int32) < (-x)) => ?_) (fun (r4 : (-10000 : Int32) < (-x)) => ?_)
          · refine s_bipush X (pc' := 33) d56_31 (v := (10 : Int32)) (by decide) rfl ?_
            refine s_iloadN X (pc' := 34) d56_33 rfl rfl ?_
            refine s_imul X (pc' := 35) d56_34 rfl ?_
            refine go_int (z := (-100000 : Int32)) (by decide) ?_
            refine s_istoreN X (pc' := 36) (L' := #[.val (.int (-x)), .val (.int (0 : Int32)), .val (.int (-100000 : Int32)), .val (.int (4 : Int32))]) d56_35 rfl rfl ?_
            refine s_iinc X (pc' := 39) (L' := #[.val (.int (-x)), .val (.int (0 : Int32)), .val (.int (-100000 : Int32)), .val (.int (5 : Int32))]) d56_36 (v := (1 : Int32)) (by decide) rfl rfl rfl ?_
            refine s_goto X (pc' := 16) d56_39 (by decide) (by decide) ?_
            refine s_iloadN X (pc' := 17) d56_16 rfl rfl ?_
            refine s_bipush X (pc' := 19) d56_17 (v := (10 : Int32)) (by decide) rfl ?_
            refine s_icmpF X (pc' := 22) d56_19 (show (5 : Int32) < (10 : Int32) by decide) rfl ?_
            refine s_iloadN X (pc' := 23) d56_22 rfl rfl ?_
            refine s_iloadN X (pc' := 24) d56_23 rfl rfl ?_
            refine s_icmp X (pc' := 31) (pcF := 27) d56_24 (by decide) (by decide) rfl (fun (r5 : ¬ (-100000 : Int32) < (-x)) => ?_) (fun (r5 : (-100000 : Int32) < (-x)) => ?_)
            · refine s_bipush X (pc' := 33) d56_31 (v := (10 : Int32)) (by decide) rfl ?_
              refine s_iloadN X (pc' := 34) d56_33 rfl rfl ?_
              refine s_imul X (pc' := 35) d56_34 rfl ?_
              refine go_int (z := (-1000000 : Int32)) (by decide) ?_
              refine s_istoreN X (pc' := 36) (L' := #[.val (.int (-x)), .val (.int (0 : Int32)), .val (.int (-1000000 : Int32)), .val (.int (5 : Int32))]) d56_35 rfl rfl ?_
              refine s_iinc X (pc' := 39) (L' := #[.val (.int (-x)), .val (.int (0 : Int32)), .val (.int (-1000000 : Int32)), .val (.int (6 : Int32))]) d56_36 (v := (1 : Int32)) (by decide) rfl rfl rfl ?_
              refine s_goto X (pc' := 16) d56_39 (by decide) (by decide) ?_
              refine s_iloadN X (pc' := 17) d56_16 rfl rfl ?_
              refine s_bipush X (pc' := 19) d56_17 (v := (10 : Int32)) (by decide) rfl ?_
              refine s_icmpF X (pc' := 22) d56_19 (show (6 : Int32) < (10 : Int32) by decide) rfl ?_
              refine s_iloadN X (pc' := 23) d56_22 rfl rfl ?_
              refine s_iloadN X (pc' := 24) d56_23 rfl rfl ?_
              refine s_icmp X (pc' := 31) (pcF := 27) d56_24 (by decide) (by decide) rfl (fun (r6 : ¬ (-1000000 : Int32) < (-x)) => ?_) (fun (r6 : (-1000000 : Int32) < (-x)) => ?_)
              · refine s_bipush X (pc' := 33) d56_31 (v := (10 : Int32)) (by decide) rfl ?_
                refine s_iloadN X (pc' := 34) d56_33 rfl rfl ?_
                refine s_imul X (pc' := 35) d56_34 rfl ?_
                refine go_int (z := (-10000000 : Int32)) (by decide) ?_
                refine s_istoreN X (pc' := 36) (L' := #[.val (.int (-x)), .val (.int (0 : Int32)), .val (.int (-10000000 : Int32)), .val (.int (6 : Int32))]) d56_35 rfl rfl ?_
                refine s_iinc X (pc' := 39) (L' := #[.val (.int (-x)), .val (.int (0 : Int32)), .val (.int (-10000000 : Int32)), .val (.int (7 : Int32))]) d56_36 (v := (1 : Int32)) (by decide) rfl rfl rfl ?_
                refine s_goto X (pc' := 16) d56_39 (by decide) (by decide) ?_
                refine s_iloadN X (pc' := 17) d56_16 rfl rfl ?_
                refine s_bipush X (pc' := 19) d56_17 (v := (10 : Int32)) (by decide) rfl ?_
                refine s_icmpF X (pc' := 22) d56_19 (show (7 : Int32) < (10 : Int32) by decide) rfl ?_
                refine s_iloadN X (pc' := 23) d56_22 rfl rfl ?_
                refine s_iloadN X (pc' := 24) d56_23 rfl rfl ?_
                refine s_icmp X (pc' := 31) (pcF := 27) d56_24 (by decide) (by decide) rfl (fun (r7 : ¬ (-10000000 : Int32) < (-x)) => ?_) (fun (r7 : (-10000000 : Int32) < (-x)) => ?_)
                · refine s_bipush X (pc' := 33) d56_31 (v := (10 : Int32)) (by decide) rfl ?_
                  refine s_iloadN X (pc' := 34) d56_33 rfl rfl ?_
                  refine s_imul X (pc' := 35) d56_34 rfl ?_
                  refine go_int (z := (-100000000 : Int32)) (by decide) ?_
                  refine s_istoreN X (pc' := 36) (L' := #[.val (.int (-x)), .val (.int (0 : Int32)), .val (.int (-100000000 : Int32)), .val (.int (7 : Int32))]) d56_35 rfl rfl ?_
                  refine s_iinc X (pc' := 39) (L' := #[.val (.int (-x)), .val (.int (0 : Int32)), .val (.int (-100000000 : Int32)), .val (.int (8 : Int32))]) d56_36 (v := (1 : Int32)) (by decide) rfl rfl rfl ?_
                  refine s_goto X (pc' := 16) d56_39 (by decide) (by decide) ?_
                  refine s_iloadN X (pc' := 17) d56_16 rfl rfl ?_
                  refine s_bipush X (pc' := 19) d56_17 (v := (10 : Int32)) (by decide) rfl ?_
                  refine s_icmpF X (pc' := 22) d56_19 (show (8 : Int32) < (10 : Int32) by decide) rfl ?_
                  refine s_iloadN X (pc' := 23) d56_22 rfl rfl ?_
                  refine s_iloadN X (pc' := 24) d56_23 rfl rfl ?_
                  refine s_icmp X (pc' := 31) (pcF := 27) d56_24 (by decide) (by decide) rfl (fun (r8 : ¬ (-100000000 : Int32) < (-x)) => ?_) (fun (r8 : (-100000000 : Int32) < (-x)) => ?_)
                  · refine s_bipush X (pc' := 33) d56_31 (v := (10 : Int32)) (by decide) rfl ?_
                    refine s_iloadN X (pc' := 34) d56_33 rfl rfl ?_
                    refine s_imul X (pc' := 35) d56_34 rfl ?_
                    refine go_int (z := (-1000000000 : Int32)) (by decide) ?_
                    refine s_istoreN X (pc' := 36) (L' := #[.val (.int (-x)), .val (.int (0 : Int32)), .val (.int (-1000000000 : Int32)), .val (.int (8 : Int32))]) d56_35 rfl rfl ?_
                    refine s_iinc X (pc' := 39) (L' := #[.val (.int (-x)), .val (.int (0 : Int32)), .val (.int (-1000000000 : Int32)), .val (.int (9 : Int32))]) d56_36 (v := (1 : Int32)) (by decide) rfl rfl rfl ?_
                    refine s_goto X (pc' := 16) d56_39 (by decide) (by decide) ?_
                    refine s_iloadN X (pc' := 17) d56_16 rfl rfl ?_
                    refine s_bipush X (pc' := 19) d56_17 (v := (10 : Int32)) (by decide) rfl ?_
                    refine s_icmpF X (pc' := 22) d56_19 (show (9 : Int32) < (10 : Int32) by decide) rfl ?_
                    refine s_iloadN X (pc' := 23) d56_22 rfl rfl ?_
                    refine s_iloadN X (pc' := 24) d56_23 rfl rfl ?_
                    refine s_icmp X (pc' := 31) (pcF := 27) d56_24 (by decide) (by decide) rfl (fun (r9 : ¬ (-1000000000 : Int32) < (-x)) => ?_) (fun (r9 : (-1000000000 : Int32) < (-x)) => ?_)
                    · refine s_bipush X (pc' := 33) d56_31 (v := (10 : Int32)) (by decide) rfl ?_
                      refine s_iloadN X (pc' := 34) d56_33 rfl rfl ?_
                      refine s_imul X (pc' := 35) d56_34 rfl ?_
                      refine go_int (z := (-1410065408 : Int32)) (by decide) ?_
                      refine s_istoreN X (pc' := 36) (L' := #[.val (.int (-x)), .val (.int (0 : Int32)), .val (.int (-1410065408 : Int32)), .val (.int (9 : Int32))]) d56_35 rfl rfl ?_
                      refine s_iinc X (pc' := 39) (L' := #[.val (.int (-x)), .val (.int (0 : Int32)), .val (.int (-1410065408 : Int32)), .val (.int (10 : Int32))]) d56_36 (v := (1 : Int32)) (by decide) rfl rfl rfl ?_
                      refine s_goto X (pc' := 16) d56_39 (by decide) (by decide) ?_
                      refine s_iloadN X (pc' := 17) d56_16 rfl rfl ?_
                      refine s_bipush X (pc' := 19) d56_17 (v := (10 : Int32)) (by decide) rfl ?_
                      refine s_icmpT X (pc' := 42) d56_19 (show ¬ (10 : Int32) < (10 : Int32) by decide) (by decide) (by decide) ?_
                      refine s_bipush X (pc' := 44) d56_42 (v := (10 : Int32)) (by decide) rfl ?_
                      refine s_iloadN X (pc' := 45) d56_44 rfl rfl ?_
                      refine s_iadd X (pc' := 46) d56_45 rfl ?_
                      refine go_int (z := (Int32.ofNat 10)) (by decide) ?_
                      have hpw : x.toInt.natAbs < 10 ^ 10 := by
                        have : (10 : Nat) ^ 10 = 10000000000 := by decide
                        omega
                      exact s_iret X hEL (ws' := []) d56_46 (by decide) (by decide) (fun x q => by simp at q) ⟨10, 10, rfl, (by rw [ng]), by decide, by decide, hpw, rfl, rfl⟩
                    · have pv : (-1000000000 : Int32).toInt = -1000000000 := rfl
                      rw [Int32.lt_iff_toInt_lt, pv, hx0] at r9
                      refine s_iloadN X (pc' := 28) d56_27 rfl rfl ?_
                      refine s_iloadN X (pc' := 29) d56_28 rfl rfl ?_
                      refine s_iadd X (pc' := 30) d56_29 rfl ?_
                      refine go_int (z := (Int32.ofNat 9)) (by decide) ?_
                      have hpw : x.toInt.natAbs < 10 ^ 9 := by
                        have : (10 : Nat) ^ 9 = 1000000000 := by decide
                        omega
                      exact s_iret X hEL (ws' := []) d56_30 (by decide) (by decide) (fun x q => by simp at q) ⟨9, 9, rfl, (by rw [ng]), by decide, by decide, hpw, rfl, rfl⟩
                  · have pv : (-100000000 : Int32).toInt = -100000000 := rfl
                    rw [Int32.lt_iff_toInt_lt, pv, hx0] at r8
                    refine s_iloadN X (pc' := 28) d56_27 rfl rfl ?_
                    refine s_iloadN X (pc' := 29) d56_28 rfl rfl ?_
                    refine s_iadd X (pc' := 30) d56_29 rfl ?_
                    refine go_int (z := (Int32.ofNat 8)) (by decide) ?_
                    have hpw : x.toInt.natAbs < 10 ^ 8 := by
                      have : (10 : Nat) ^ 8 = 100000000 := by decide
                      omega
                    exact s_iret X hEL (ws' := []) d56_30 (by decide) (by decide) (fun x q => by simp at q) ⟨8, 8, rfl, (by rw [ng]), by decide, by decide, hpw, rfl, rfl⟩
                · have pv : (-10000000 : Int32).toInt = -10000000 := rfl
                  rw [Int32.lt_iff_toInt_lt, pv, hx0] at r7
                  refine s_iloadN X (pc' := 28) d56_27 rfl rfl ?_
                  refine s_iloadN X (pc' := 29) d56_28 rfl rfl ?_
                  refine s_iadd X (pc' := 30) d56_29 rfl ?_
                  refine go_int (z := (Int32.ofNat 7)) (by decide) ?_
                  have hpw : x.toInt.natAbs < 10 ^ 7 := by
                    have : (10 : Nat) ^ 7 = 10000000 := by decide
                    omega
                  exact s_iret X hEL (ws' := []) d56_30 (by decide) (by decide) (fun x q => by simp at q) ⟨7, 7, rfl, (by rw [ng]), by decide, by decide, hpw, rfl, rfl⟩
              · have pv : (-1000000 : Int32).toInt = -1000000 := rfl
                rw [Int32.lt_iff_toInt_lt, pv, hx0] at r6
                refine s_iloadN X (pc' := 28) d56_27 rfl rfl ?_
                refine s_iloadN X (pc' := 29) d56_28 rfl rfl ?_
                refine s_iadd X (pc' := 30) d56_29 rfl ?_
                refine go_int (z := (Int32.ofNat 6)) (by decide) ?_
                have hpw : x.toInt.natAbs < 10 ^ 6 := by
                  have : (10 : Nat) ^ 6 = 1000000 := by decide
                  omega
                exact s_iret X hEL (ws' := []) d56_30 (by decide) (by decide) (fun x q => by simp at q) ⟨6, 6, rfl, (by rw [ng]), by decide, by decide, hpw, rfl, rfl⟩
            · have pv : (-100000 : Int32).toInt = -100000 := rfl
              rw [Int32.lt_iff_toInt_lt, pv, hx0] at r5
              refine s_iloadN X (pc' := 28) d56_27 rfl rfl ?_
              refine s_iloadN X (pc' := 29) d56_28 rfl rfl ?_
              refine s_iadd X (pc' := 30) d56_29 rfl ?_
              refine go_int (z := (Int32.ofNat 5)) (by decide) ?_
              have hpw : x.toInt.natAbs < 10 ^ 5 := by
                have : (10 : Nat) ^ 5 = 100000 := by decide
                omega
              exact s_iret X hEL (ws' := []) d56_30 (by decide) (by decide) (fun x q => by simp at q) ⟨5, 5, rfl, (by rw [ng]), by decide, by decide, hpw, rfl, rfl⟩
          · have pv : (-10000 : Int32).toInt = -10000 := rfl
            rw [Int32.lt_iff_toInt_lt, pv, hx0] at r4
            refine s_iloadN X (pc' := 28) d56_27 rfl rfl ?_
            refine s_iloadN X (pc' := 29) d56_28 rfl rfl ?_
            refine s_iadd X (pc' := 30) d56_29 rfl ?_
            refine go_int (z := (Int32.ofNat 4)) (by decide) ?_
            have hpw : x.toInt.natAbs < 10 ^ 4 := by
              have : (10 : Nat) ^ 4 = 10000 := by decide
              omega
            exact s_iret X hEL (ws' := []) d56_30 (by decide) (by decide) (fun x q => by simp at q) ⟨4, 4, rfl, (by rw [ng]), by decide, by decide, hpw, rfl, rfl⟩
        · have pv : (-1000 : Int32).toInt = -1000 := rfl
          rw [Int32.lt_iff_toInt_lt, pv, hx0] at r3
          refine s_iloadN X (pc' := 28) d56_27 rfl rfl ?_
          refine s_iloadN X (pc' := 29) d56_28 rfl rfl ?_
          refine s_iadd X (pc' := 30) d56_29 rfl ?_
          refine go_int (z := (Int32.ofNat 3)) (by decide) ?_
          have hpw : x.toInt.natAbs < 10 ^ 3 := by
            have : (10 : Nat) ^ 3 = 1000 := by decide
            omega
          exact s_iret X hEL (ws' := []) d56_30 (by decide) (by decide) (fun x q => by simp at q) ⟨3, 3, rfl, (by rw [ng]), by decide, by decide, hpw, rfl, rfl⟩
      · have pv : (-100 : Int32).toInt = -100 := rfl
        rw [Int32.lt_iff_toInt_lt, pv, hx0] at r2
        refine s_iloadN X (pc' := 28) d56_27 rfl rfl ?_
        refine s_iloadN X (pc' := 29) d56_28 rfl rfl ?_
        refine s_iadd X (pc' := 30) d56_29 rfl ?_
        refine go_int (z := (Int32.ofNat 2)) (by decide) ?_
        have hpw : x.toInt.natAbs < 10 ^ 2 := by
          have : (10 : Nat) ^ 2 = 100 := by decide
          omega
        exact s_iret X hEL (ws' := []) d56_30 (by decide) (by decide) (fun x q => by simp at q) ⟨2, 2, rfl, (by rw [ng]), by decide, by decide, hpw, rfl, rfl⟩
    · have pv : (-10 : Int32).toInt = -10 := rfl
      rw [Int32.lt_iff_toInt_lt, pv, hx0] at r1
      refine s_iloadN X (pc' := 28) d56_27 rfl rfl ?_
      refine s_iloadN X (pc' := 29) d56_28 rfl rfl ?_
      refine s_iadd X (pc' := 30) d56_29 rfl ?_
      refine go_int (z := (Int32.ofNat 1)) (by decide) ?_
      have hpw : x.toInt.natAbs < 10 ^ 1 := by
        have : (10 : Nat) ^ 1 = 10 := by decide
        omega
      exact s_iret X hEL (ws' := []) d56_30 (by decide) (by decide) (fun x q => by simp at q) ⟨1, 1, rfl, (by rw [ng]), by decide, by decide, hpw, rfl, rfl⟩
theorem d57_0 : decode jdk_33_method_12_code 0 = .ok (.iload_n 1, 1) := by decide +kernel
theorem d57_1 : decode jdk_33_method_12_code 1 = .ok (.istore 5, 2) := by decide +kernel
theorem d57_3 : decode jdk_33_method_12_code 3 = .ok (.iload_n 0, 1) := by decide +kernel
theorem d57_4 : decode jdk_33_method_12_code 4 = .ok (.ifCond .ge 7, 3) := by decide +kernel
theorem d57_7 : decode jdk_33_method_12_code 7 = .ok (.iconst 1, 1) := by decide +kernel
theorem d57_8 : decode jdk_33_method_12_code 8 = .ok (.goto 4, 3) := by decide +kernel
theorem d57_11 : decode jdk_33_method_12_code 11 = .ok (.iconst 0, 1) := by decide +kernel
theorem d57_12 : decode jdk_33_method_12_code 12 = .ok (.istore 6, 2) := by decide +kernel
theorem d57_14 : decode jdk_33_method_12_code 14 = .ok (.iload 6, 2) := by decide +kernel
theorem d57_16 : decode jdk_33_method_12_code 16 = .ok (.ifCond .ne 6, 3) := by decide +kernel
theorem d57_19 : decode jdk_33_method_12_code 19 = .ok (.iload_n 0, 1) := by decide +kernel
theorem d57_20 : decode jdk_33_method_12_code 20 = .ok (.ineg, 1) := by decide +kernel
theorem d57_21 : decode jdk_33_method_12_code 21 = .ok (.istore_n 0, 1) := by decide +kernel
theorem d57_22 : decode jdk_33_method_12_code 22 = .ok (.iload_n 0, 1) := by decide +kernel
theorem d57_23 : decode jdk_33_method_12_code 23 = .ok (.bipush (-100), 2) := by decide +kernel
theorem d57_25 : decode jdk_33_method_12_code 25 = .ok (.if_icmp .gt 47, 3) := by decide +kernel
theorem d57_28 : decode jdk_33_method_12_code 28 = .ok (.iload_n 0, 1) := by decide +kernel
theorem d57_29 : decode jdk_33_method_12_code 29 = .ok (.bipush 100, 2) := by decide +kernel
theorem d57_31 : decode jdk_33_method_12_code 31 = .ok (.idiv, 1) := by decide +kernel
theorem d57_32 : decode jdk_33_method_12_code 32 = .ok (.istore_n 3, 1) := by decide +kernel
theorem d57_33 : decode jdk_33_method_12_code 33 = .ok (.iload_n 3, 1) := by decide +kernel
theorem d57_34 : decode jdk_33_method_12_code 34 = .ok (.bipush 100, 2) := by decide +kernel
theorem d57_36 : decode jdk_33_method_12_code 36 = .ok (.imul, 1) := by decide +kernel
theorem d57_37 : decode jdk_33_method_12_code 37 = .ok (.iload_n 0, 1) := by decide +kernel
theorem d57_38 : decode jdk_33_method_12_code 38 = .ok (.isub, 1) := by decide +kernel
theorem d57_39 : decode jdk_33_method_12_code 39 = .ok (.istore 4, 2) := by decide +kernel
theorem d57_41 : decode jdk_33_method_12_code 41 = .ok (.iload_n 3, 1) := by decide +kernel
theorem d57_42 : decode jdk_33_method_12_code 42 = .ok (.istore_n 0, 1) := by decide +kernel
theorem d57_43 : decode jdk_33_method_12_code 43 = .ok (.aload_n 2, 1) := by decide +kernel
theorem d57_44 : decode jdk_33_method_12_code 44 = .ok (.iinc 5 (-1), 3) := by decide +kernel
theorem d57_47 : decode jdk_33_method_12_code 47 = .ok (.iload 5, 2) := by decide +kernel
theorem d57_49 : decode jdk_33_method_12_code 49 = .ok (.getstatic 83, 3) := by decide +kernel
theorem d57_52 : decode jdk_33_method_12_code 52 = .ok (.iload 4, 2) := by decide +kernel
theorem d57_54 : decode jdk_33_method_12_code 54 = .ok (.baload, 1) := by decide +kernel
theorem d57_55 : decode jdk_33_method_12_code 55 = .ok (.bastore, 1) := by decide +kernel
theorem d57_56 : decode jdk_33_method_12_code 56 = .ok (.aload_n 2, 1) := by decide +kernel
theorem d57_57 : decode jdk_33_method_12_code 57 = .ok (.iinc 5 (-1), 3) := by decide +kernel
theorem d57_60 : decode jdk_33_method_12_code 60 = .ok (.iload 5, 2) := by decide +kernel
theorem d57_62 : decode jdk_33_method_12_code 62 = .ok (.getstatic 87, 3) := by decide +kernel
theorem d57_65 : decode jdk_33_method_12_code 65 = .ok (.iload 4, 2) := by decide +kernel
theorem d57_67 : decode jdk_33_method_12_code 67 = .ok (.baload, 1) := by decide +kernel
theorem d57_68 : decode jdk_33_method_12_code 68 = .ok (.bastore, 1) := by decide +kernel
theorem d57_69 : decode jdk_33_method_12_code 69 = .ok (.goto (-47), 3) := by decide +kernel
theorem d57_72 : decode jdk_33_method_12_code 72 = .ok (.aload_n 2, 1) := by decide +kernel
theorem d57_73 : decode jdk_33_method_12_code 73 = .ok (.iinc 5 (-1), 3) := by decide +kernel
theorem d57_76 : decode jdk_33_method_12_code 76 = .ok (.iload 5, 2) := by decide +kernel
theorem d57_78 : decode jdk_33_method_12_code 78 = .ok (.getstatic 83, 3) := by decide +kernel
theorem d57_81 : decode jdk_33_method_12_code 81 = .ok (.iload_n 0, 1) := by decide +kernel
theorem d57_82 : decode jdk_33_method_12_code 82 = .ok (.ineg, 1) := by decide +kernel
theorem d57_83 : decode jdk_33_method_12_code 83 = .ok (.baload, 1) := by decide +kernel
theorem d57_84 : decode jdk_33_method_12_code 84 = .ok (.bastore, 1) := by decide +kernel
theorem d57_85 : decode jdk_33_method_12_code 85 = .ok (.iload_n 0, 1) := by decide +kernel
theorem d57_86 : decode jdk_33_method_12_code 86 = .ok (.bipush (-9), 2) := by decide +kernel
theorem d57_88 : decode jdk_33_method_12_code 88 = .ok (.if_icmp .ge 16, 3) := by decide +kernel
theorem d57_91 : decode jdk_33_method_12_code 91 = .ok (.aload_n 2, 1) := by decide +kernel
theorem d57_92 : decode jdk_33_method_12_code 92 = .ok (.iinc 5 (-1), 3) := by decide +kernel
theorem d57_95 : decode jdk_33_method_12_code 95 = .ok (.iload 5, 2) := by decide +kernel
theorem d57_97 : decode jdk_33_method_12_code 97 = .ok (.getstatic 87, 3) := by decide +kernel
theorem d57_100 : decode jdk_33_method_12_code 100 = .ok (.iload_n 0, 1) := by decide +kernel
theorem d57_101 : decode jdk_33_method_12_code 101 = .ok (.ineg, 1) := by decide +kernel
theorem d57_102 : decode jdk_33_method_12_code 102 = .ok (.baload, 1) := by decide +kernel
theorem d57_103 : decode jdk_33_method_12_code 103 = .ok (.bastore, 1) := by decide +kernel
theorem d57_104 : decode jdk_33_method_12_code 104 = .ok (.iload 6, 2) := by decide +kernel
theorem d57_106 : decode jdk_33_method_12_code 106 = .ok (.ifCond .eq 12, 3) := by decide +kernel
theorem d57_109 : decode jdk_33_method_12_code 109 = .ok (.aload_n 2, 1) := by decide +kernel
theorem d57_110 : decode jdk_33_method_12_code 110 = .ok (.iinc 5 (-1), 3) := by decide +kernel
theorem d57_113 : decode jdk_33_method_12_code 113 = .ok (.iload 5, 2) := by decide +kernel
theorem d57_115 : decode jdk_33_method_12_code 115 = .ok (.bipush 45, 2) := by decide +kernel
theorem d57_117 : decode jdk_33_method_12_code 117 = .ok (.bastore, 1) := by decide +kernel
theorem d57_118 : decode jdk_33_method_12_code 118 = .ok (.iload 5, 2) := by decide +kernel
theorem d57_120 : decode jdk_33_method_12_code 120 = .ok (.ireturn, 1) := by decide +kernel
theorem ef_sb_gc (m : MethodId) (x : Int32) (ix : Nat) (t : Addr) : entryFrame m #[(.int x), (.int (Int32.ofNat ix)), (.ref t)] 7 = mkF m 0 #[.val (.int x), .val (.int (Int32.ofNat ix)), .val (.ref t), .unset, .unset, .unset, .unset] [] := by first | (simp [entryFrame, mkF, argsToLocals, Value.category]; done) | rfl
set_option maxRecDepth 65536 in
set_option maxHeartbeats 40000000 in
theorem sb_gc (l : Launch) (Z : State) (a0 : Array Value) (hw : ∀ d ∈ tables_1, d.before a0 Z = true) (hEL : EW Z a0 consts_1) (x : Int32) (ix : Nat) (t : Addr) (h : Heap) {vt : List Value} {md : Nat} {dO dT : Addr} {vO vT : List Value} (A_t : Ary Z h t .byte vt) (hv : vt.length ≤ 800) (hix : ix ≤ vt.length) (hmd : 1 ≤ md) (hmx : md ≤ 10) (hx : x.toInt.natAbs < 10 ^ md) (hsz : md + ngN x ≤ ix) (g_t : Z.heap.size ≤ t) (dg : Digs Z dO dT vO vT) :
    Con l Z consts_1 True (⟨"java/lang/Integer", "getChars", "(II[B)I"⟩ : MethodName) jdk_33_method_12_code 7 (some .int) ({ frames := 0, cells := 0, slots := 0, locals := 0 } : Room) [t] #[(.int x), (.int (Int32.ofNat ix)), (.ref t)] h (fun v h' ws' => ∃ z, v = some (.int z) ∧ Keep h h' [t] ∧ (∃ vs, vs.length = vt.length ∧ Ary Z h' t .byte vs) ∧ ws' = []) := by
  refine Con.intro own_pn25 (fun p e s m below meth c T X => ?_)
  rw [ef_sb_gc m x ix t]
  have fin2 : ∀ (T : State) (h1 : Heap) (i : Int32) (cp : Nat) (fl : Int32) (fn : Nat) (vs : List Value) (s3 s4 : Slot), ((fl = 0 ∧ fn = 0) ∨ (fl = 1 ∧ fn = 1)) → fn ≤ cp → cp ≤ vt.length → vs.length = vt.length → Ary Z h1 t .byte vs → Keep h h1 [t] → Cx p l e ({ frames := 0, cells := 0, slots := 0, locals := 0 } : Room) s m #[(.int x), (.int (Int32.ofNat ix)), (.ref t)] below meth c Z consts_1 True (⟨"java/lang/Integer", "getChars", "(II[B)I"⟩ : MethodName) jdk_33_method_12_code 7 (some .int) [t] T h1 0 0 → Go p e below (Post Z consts_1 s ({ frames := 0, cells := 0, slots := 0, locals := 0 } : Room) (fun v h' ws' => ∃ z, v = some (.int z) ∧ Keep h h' [t] ∧ (∃ vs, vs.length = vt.length ∧ Ary Z h' t .byte vs) ∧ ws' = [])) T (mkF m 104 #[.val (.int i), .val (.int (Int32.ofNat ix)), .val (.ref t), s3, s4, .val (.int (Int32.ofNat cp)), .val (.int fl)] []) := by
    intro T h1 i cp fl fn vs s3 s4 hfl hc1 hc2 hvl A_t K_ X
    refine s_iload X (pc' := 106) d57_104 rfl rfl ?_
    refine s_if X (pc' := 118) (pcF := 109) d57_106 (by decide) (by decide) rfl (fun (q1 : fl = (0 : Int32)) => ?_) (fun (q1 : ¬ fl = (0 : Int32)) => ?_)
    · refine s_iload X (pc' := 120) d57_118 rfl rfl ?_
      exact s_iret X hEL (ws' := []) d57_120 (by decide) (by decide) (fun x q => by simp at q) ⟨_, rfl, K_, ⟨vs, hvl, A_t⟩, rfl⟩
    · have f1 : fn = 1 := hfl.elim (fun z => absurd z.1 q1) (fun z => z.2)
      refine s_aloadN X (pc' := 110) d57_109 rfl rfl rfl ?_
      refine s_iinc X (pc' := 113) (L' := #[.val (.int i), .val (.int (Int32.ofNat ix)), .val (.ref t), s3, s4, .val (.int ((Int32.ofNat cp) + (-1 : Int32))), .val (.int fl)]) d57_110 (v := (-1 : Int32)) (by decide) rfl rfl rfl ?_
      refine s_iload X (pc' := 115) d57_113 rfl rfl ?_
      refine s_bipush X (pc' := 117) d57_115 (v := (45 : Int32)) (by decide) rfl ?_
      refine s_bastore X (pc' := 118) (i := cp - 1) d57_117 A_t (on_pred (by omega)) (by omega) g_t (by simp) rfl (fun T h64 X W65 A_t => ?_)
      replace K_ := K_.wr W65 (Or.inl (by simp))
      refine s_iload X (pc' := 120) d57_118 rfl rfl ?_
      exact s_iret X hEL (ws' := []) d57_120 (by decide) (by decide) (fun x q => by simp at q) ⟨_, rfl, K_, ⟨_, List.length_set.trans hvl, A_t⟩, rfl⟩
  have fin : ∀ (T : State) (h1 : Heap) (i : Int32) (n cp : Nat) (fl : Int32) (fn : Nat) (vs : List Value) (s3 s4 : Slot) (md : Nat), i.toInt = -(n : Int) → n < 100 → n < 10 ^ md → 1 ≤ md → ((fl = 0 ∧ fn = 0) ∨ (fl = 1 ∧ fn = 1)) → md + fn ≤ cp → cp ≤ vt.length → vs.length = vt.length → Ary Z h1 t .byte vs → Keep h h1 [t] → Cx p l e ({ frames := 0, cells := 0, slots := 0, locals := 0 } : Room) s m #[(.int x), (.int (Int32.ofNat ix)), (.ref t)] below meth c Z consts_1 True (⟨"java/lang/Integer", "getChars", "(II[B)I"⟩ : MethodName) jdk_33_method_12_code 7 (some .int) [t] T h1 0 0 → Go p e below (Post Z consts_1 s ({ frames := 0, cells := 0, slots := 0, locals := 0 } : Room) (fun v h' ws' => ∃ z, v = some (.int z) ∧ Keep h h' [t] ∧ (∃ vs, vs.length = vt.length ∧ Ary Z h' t .byte vs) ∧ ws' = [])) T (mkF m 72 #[.val (.int i), .val (.int (Int32.ofNat ix)), .val (.ref t), s3, s4, .val (.int (Int32.ofNat cp)), .val (.int fl)] []) := by
    intro T h1 i n cp fl fn vs s3 s4 md hi hn hnd hmd hfl hc1 hc2 hvl A_t K_ X
    refine s_aloadN X (pc' := 73) d57_72 rfl rfl rfl ?_
    refine s_iinc X (pc' := 76) (L' := #[.val (.int i), .val (.int (Int32.ofNat ix)), .val (.ref t), s3, s4, .val (.int ((Int32.ofNat cp) + (-1 : Int32))), .val (.int fl)]) d57_73 (v := (-1 : Int32)) (by decide) rfl rfl rfl ?_
    refine s_iload X (pc' := 78) d57_76 rfl rfl ?_
    refine s_gets X (pc' := 81) d57_78 (hw _ (List.mem_of_getElem? (i := 359) rfl)) Via.refl dg.1 rfl (fun T X => ?_)
    refine s_iloadN X (pc' := 82) d57_81 rfl rfl ?_
    refine s_ineg X (pc' := 83) d57_82 rfl ?_
    refine go_int (z := (Int32.ofNat n)) (neg_on hi hn) ?_
    obtain ⟨zb, hzb⟩ := ary_int (dg.2.2.1.ext X.old) (i := n) (by rw [dg.2.2.2.2.1]; exact hn)
    refine s_baload X (pc' := 84) (i := n) d57_83 (dg.2.2.1.ext X.old) rfl hzb rfl ?_
    refine s_bastore X (pc' := 85) (i := cp - 1) d57_84 A_t (on_pred (by omega)) (by omega) g_t (by simp) rfl (fun T h66 X W67 A_t => ?_)
    replace K_ := K_.wr W67 (Or.inl (by simp))
    refine s_iloadN X (pc' := 86) d57_85 rfl rfl ?_
    refine s_bipush X (pc' := 88) d57_86 (v := (-9 : Int32)) (by decide) rfl ?_
    refine s_icmp X (pc' := 104) (pcF := 91) d57_88 (by decide) (by decide) rfl (fun (q1 : ¬ i < (-9 : Int32)) => ?_) (fun (q1 : i < (-9 : Int32)) => ?_)
    · have hv' := fin2 T h66 i (cp - 1) fl fn _ s3 s4 hfl (by omega) (by omega) (List.length_set.trans hvl) A_t K_ X
      show Go p e below _ T (mkF m 104 #[.val (.int i), .val (.int (Int32.ofNat ix)), .val (.ref t), s3, s4, .val (.int ((Int32.ofNat cp) + (-1 : Int32))), .val (.int fl)] [])
      rw [on_pred (by omega)]
      exact hv'
    · have n10 : 10 ≤ n := by
        rw [Int32.lt_iff_toInt_lt, hi] at q1
        have e9 : (-9 : Int32).toInt = -9 := rfl
        omega
      have m2 : 2 ≤ md := by
        rcases Nat.lt_or_ge md 2 with z | z
        · have : (10 : Nat) ^ md ≤ 10 ^ 1 := pow_le (by omega)
          omega
        · exact z
      refine s_aloadN X (pc' := 92) d57_91 rfl rfl rfl ?_
      refine s_iinc X (pc' := 95) (L' := #[.val (.int i), .val (.int (Int32.ofNat ix)), .val (.ref t), s3, s4, .val (.int (((Int32.ofNat cp) + (-1 : Int32)) + (-1 : Int32))), .val (.int fl)]) d57_92 (v := (-1 : Int32)) (by decide) rfl rfl rfl ?_
      refine s_iload X (pc' := 97) d57_95 rfl rfl ?_
      refine s_gets X (pc' := 100) d57_97 (hw _ (List.mem_of_getElem? (i := 377) rfl)) Via.refl dg.2.1 rfl (fun T X => ?_)
      refine s_iloadN X (pc' := 101) d57_100 rfl rfl ?_
      refine s_ineg X (pc' := 102) d57_101 rfl ?_
      refine go_int (z := (Int32.ofNat n)) (neg_on hi hn) ?_
      obtain ⟨zb, hzb⟩ := ary_int (dg.2.2.2.1.ext X.old) (i := n) (by rw [dg.2.2.2.2.2]; exact hn)
      refine s_baload X (pc' := 103) (i := n) d57_102 (dg.2.2.2.1.ext X.old) rfl hzb rfl ?_
      refine s_bastore X (pc' := 104) (i := cp - 2) d57_103 A_t (on_pred2 (by omega)) (by rw [List.length_set]; omega) g_t (by simp) rfl (fun T h68 X W69 A_t => ?_)
      replace K_ := K_.wr W69 (Or.inl (by simp))
      have hv' := fin2 T h68 i (cp - 2) fl fn _ s3 s4 hfl (by omega) (by omega) (List.length_set.trans (List.length_set.trans hvl)) A_t K_ X
      show Go p e below _ T (mkF m 104 #[.val (.int i), .val (.int (Int32.ofNat ix)), .val (.ref t), s3, s4, .val (.int (((Int32.ofNat cp) + (-1 : Int32)) + (-1 : Int32))), .val (.int fl)] [])
      rw [on_pred2 (by omega)]
      exact hv'
  have loop : ∀ (d : Nat) (T : State) (h1 : Heap) (i : Int32) (n cp : Nat) (fl : Int32) (fn : Nat) (vs : List Value) (a3 a4 : Int32) (md : Nat), n ≤ d → i.toInt = -(n : Int) → n < 10 ^ md → 1 ≤ md → ((fl = 0 ∧ fn = 0) ∨ (fl = 1 ∧ fn = 1)) → md + fn ≤ cp → cp ≤ vt.length → vs.length = vt.length → Ary Z h1 t .byte vs → Keep h h1 [t] → Cx p l e ({ frames := 0, cells := 0, slots := 0, locals := 0 } : Room) s m #[(.int x), (.int (Int32.ofNat ix)), (.ref t)] below meth c Z consts_1 True (⟨"java/lang/Integer", "getChars", "(II[B)I"⟩ : MethodName) jdk_33_method_12_code 7 (some .int) [t] T h1 0 0 → Go p e below (Post Z consts_1 s ({ frames := 0, cells := 0, slots := 0, locals := 0 } : Room) (fun v h' ws' => ∃ z, v = some (.int z) ∧ Keep h h' [t] ∧ (∃ vs, vs.length = vt.length ∧ Ary Z h' t .byte vs) ∧ ws' = [])) T (mkF m 22 #[.val (.int i), .val (.int (Int32.ofNat ix)), .val (.ref t), .val (.int a3), .val (.int a4), .val (.int (Int32.ofNat cp)), .val (.int fl)] []) := by
    intro d
    induction d with
    | zero =>
      intro T h1 i n cp fl fn vs a3 a4 md hnd' hi hnd hmd hfl hc1 hc2 hvl A_t K_ X
      refine s_iloadN X (pc' := 23) d57_22 rfl rfl ?_
      refine s_bipush X (pc' := 25) d57_23 (v := (-100 : Int32)) (by decide) rfl ?_
      refine s_icmpT X (pc' := 72) d57_25 (show (-100 : Int32) < i by
        rw [Int32.lt_iff_toInt_lt, hi]
        have e9 : (-100 : Int32).toInt = -100 := rfl
        omega) (by decide) (by decide) ?_
      exact fin T h1 i n cp fl fn vs (.val (.int a3)) (.val (.int a4)) md hi (by omega) hnd hmd hfl hc1 hc2 hvl A_t K_ X
    | succ d ih =>
      intro T h1 i n cp fl fn vs a3 a4 md hnd' hi hnd hmd hfl hc1 hc2 hvl A_t K_ X
      rcases Nat.lt_or_ge n 100 with h100 | h100
      · refine s_iloadN X (pc' := 23) d57_22 rfl rfl ?_
        refine s_bipush X (pc' := 25) d57_23 (v := (-100 : Int32)) (by decide) rfl ?_
        refine s_icmpT X (pc' := 72) d57_25 (show (-100 : Int32) < i by
          rw [Int32.lt_iff_toInt_lt, hi]
          have e9 : (-100 : Int32).toInt = -100 := rfl
          omega) (by decide) (by decide) ?_
        exact fin T h1 i n cp fl fn vs (.val (.int a3)) (.val (.int a4)) md hi h100 hnd hmd hfl hc1 hc2 hvl A_t K_ X
      · refine s_iloadN X (pc' := 23) d57_22 rfl rfl ?_
        refine s_bipush X (pc' := 25) d57_23 (v := (-100 : Int32)) (by decide) rfl ?_
        refine s_icmpF X (pc' := 28) d57_25 (show ¬ (-100 : Int32) < i from fun z => by
          rw [Int32.lt_iff_toInt_lt, hi] at z
          have e9 : (-100 : Int32).toInt = -100 := rfl
          omega) rfl ?_
        refine s_iloadN X (pc' := 29) d57_28 rfl rfl ?_
        refine s_bipush X (pc' := 31) d57_29 (v := (100 : Int32)) (by decide) rfl ?_
        refine s_idiv X (pc' := 32) d57_31 (by decide) rfl ?_
        obtain ⟨q, gq⟩ : ∃ z, z = i / (100 : Int32) := ⟨_, rfl⟩
        rw [← gq]
        have hq : q.toInt = -((n / 100 : Nat) : Int) := by rw [gq]; exact div_q hi
        refine s_istoreN X (pc' := 33) (L' := #[.val (.int i), .val (.int (Int32.ofNat ix)), .val (.ref t), .val (.int q), .val (.int a4), .val (.int (Int32.ofNat cp)), .val (.int fl)]) d57_32 rfl rfl ?_
        refine s_iloadN X (pc' := 34) d57_33 rfl rfl ?_
        refine s_bipush X (pc' := 36) d57_34 (v := (100 : Int32)) (by decide) rfl ?_
        refine s_imul X (pc' := 37) d57_36 rfl ?_
        refine s_iloadN X (pc' := 38) d57_37 rfl rfl ?_
        refine s_isub X (pc' := 39) d57_38 rfl ?_
        refine go_int (z := (Int32.ofNat (n % 100))) (rem_r hi hq) ?_
        have m3 : 3 ≤ md := by
          rcases Nat.lt_or_ge md 3 with z | z
          · have : (10 : Nat) ^ md ≤ 10 ^ 2 := pow_le (by omega)
            omega
          · exact z
        have hnq : n / 100 < 10 ^ (md - 2) := by
          have e : (10 : Nat) ^ md = 10 ^ (md - 2) * 100 := by
            rw [show (100 : Nat) = 10 ^ 2 by decide, ← Nat.pow_add]; congr 1; omega
          rw [e] at hnd
          exact Nat.div_lt_of_lt_mul (by rw [Nat.mul_comm]; exact hnd)
        refine s_istore X (pc' := 41) (L' := #[.val (.int i), .val (.int (Int32.ofNat ix)), .val (.ref t), .val (.int q), .val (.int (Int32.ofNat (n % 100))), .val (.int (Int32.ofNat cp)), .val (.int fl)]) d57_39 rfl rfl ?_
        refine s_iloadN X (pc' := 42) d57_41 rfl rfl ?_
        refine s_istoreN X (pc' := 43) (L' := #[.val (.int q), .val (.int (Int32.ofNat ix)), .val (.ref t), .val (.int q), .val (.int (Int32.ofNat (n % 100))), .val (.int (Int32.ofNat cp)), .val (.int fl)]) d57_42 rfl rfl ?_
        refine s_aloadN X (pc' := 44) d57_43 rfl rfl rfl ?_
        refine s_iinc X (pc' := 47) (L' := #[.val (.int q), .val (.int (Int32.ofNat ix)), .val (.ref t), .val (.int q), .val (.int (Int32.ofNat (n % 100))), .val (.int ((Int32.ofNat cp) + (-1 : Int32))), .val (.int fl)]) d57_44 (v := (-1 : Int32)) (by decide) rfl rfl rfl ?_
        refine s_iload X (pc' := 49) d57_47 rfl rfl ?_
        refine s_gets X (pc' := 52) d57_49 (hw _ (List.mem_of_getElem? (i := 359) rfl)) Via.refl dg.1 rfl (fun T X => ?_)
        refine s_iload X (pc' := 54) d57_52 rfl rfl ?_
        obtain ⟨zb, hzb⟩ := ary_int (dg.2.2.1.ext X.old) (i := (n % 100)) (by rw [dg.2.2.2.2.1]; exact Nat.mod_lt _ (by decide))
        refine s_baload X (pc' := 55) (i := (n % 100)) d57_54 (dg.2.2.1.ext X.old) rfl hzb rfl ?_
        refine s_bastore X (pc' := 56) (i := cp - 1) d57_55 A_t (on_pred (by omega)) (by omega) g_t (by simp) rfl (fun T h70 X W71 A_t => ?_)
        replace K_ := K_.wr W71 (Or.inl (by simp))
        refine s_aloadN X (pc' := 57) d57_56 rfl rfl rfl ?_
        refine s_iinc X (pc' := 60) (L' := #[.val (.int q), .val (.int (Int32.ofNat ix)), .val (.ref t), .val (.int q), .val (.int (Int32.ofNat (n % 100))), .val (.int (((Int32.ofNat cp) + (-1 : Int32)) + (-1 : Int32))), .val (.int fl)]) d57_57 (v := (-1 : Int32)) (by decide) rfl rfl rfl ?_
        refine s_iload X (pc' := 62) d57_60 rfl rfl ?_
        refine s_gets X (pc' := 65) d57_62 (hw _ (List.mem_of_getElem? (i := 377) rfl)) Via.refl dg.2.1 rfl (fun T X => ?_)
        refine s_iload X (pc' := 67) d57_65 rfl rfl ?_
        obtain ⟨zb, hzb⟩ := ary_int (dg.2.2.2.1.ext X.old) (i := (n % 100)) (by rw [dg.2.2.2.2.2]; exact Nat.mod_lt _ (by decide))
        refine s_baload X (pc' := 68) (i := (n % 100)) d57_67 (dg.2.2.2.1.ext X.old) rfl hzb rfl ?_
        refine s_bastore X (pc' := 69) (i := cp - 2) d57_68 A_t (on_pred2 (by omega)) (by rw [List.length_set]; omega) g_t (by simp) rfl (fun T h72 X W73 A_t => ?_)
        replace K_ := K_.wr W73 (Or.inl (by simp))
        refine s_goto X (pc' := 22) d57_69 (by decide) (by decide) ?_
        show Go p e below _ T (mkF m 22 #[.val (.int q), .val (.int (Int32.ofNat ix)), .val (.ref t), .val (.int q), .val (.int (Int32.ofNat (n % 100))), .val (.int (((Int32.ofNat cp) + (-1 : Int32)) + (-1 : Int32))), .val (.int fl)] [])
        rw [on_pred2 (by omega)]
        exact ih T h72 q (n / 100) (cp - 2) fl fn _ q (Int32.ofNat (n % 100)) (md - 2) (by omega) hq hnq (by omega) hfl (by omega) (by omega) (List.length_set.trans (List.length_set.trans hvl)) A_t K_ X
  have first : ∀ (T : State) (i : Int32) (n : Nat) (fl : Int32) (fn : Nat), i.toInt = -(n : Int) → n < 10 ^ md → ((fl = 0 ∧ fn = 0) ∨ (fl = 1 ∧ fn = 1)) → md + fn ≤ ix → Cx p l e ({ frames := 0, cells := 0, slots := 0, locals := 0 } : Room) s m #[(.int x), (.int (Int32.ofNat ix)), (.ref t)] below meth c Z consts_1 True (⟨"java/lang/Integer", "getChars", "(II[B)I"⟩ : MethodName) jdk_33_method_12_code 7 (some .int) [t] T h 0 0 → Go p e below (Post Z consts_1 s ({ frames := 0, cells := 0, slots := 0, locals := 0 } : Room) (fun v h' ws' => ∃ z, v = some (.int z) ∧ Keep h h' [t] ∧ (∃ vs, vs.length = vt.length ∧ Ary Z h' t .byte vs) ∧ ws' = [])) T (mkF m 22 #[.val (.int i), .val (.int (Int32.ofNat ix)), .val (.ref t), .unset, .unset, .val (.int (Int32.ofNat ix)), .val (.int fl)] []) := by
    intro T i n fl fn hi hnd hfl hc1 X
    have K_ : Keep h h [t] := Keep.refl _ _
    obtain ⟨cp, gcp⟩ : ∃ z, z = ix := ⟨_, rfl⟩
    have hc2 : cp ≤ vt.length := by omega
    replace hc1 : md + fn ≤ cp := by omega
    have hvl : vt.length = vt.length := rfl
    show Go p e below _ T (mkF m 22 #[.val (.int i), .val (.int (Int32.ofNat ix)), .val (.ref t), .unset, .unset, .val (.int (Int32.ofNat ix)), .val (.int fl)] [])
    rcases Nat.lt_or_ge n 100 with h100 | h100
    · refine s_iloadN X (pc' := 23) d57_22 rfl rfl ?_
      refine s_bipush X (pc' := 25) d57_23 (v := (-100 : Int32)) (by decide) rfl ?_
      refine s_icmpT X (pc' := 72) d57_25 (show (-100 : Int32) < i by
        rw [Int32.lt_iff_toInt_lt, hi]
        have e9 : (-100 : Int32).toInt = -100 := rfl
        omega) (by decide) (by decide) ?_
      exact fin T h i n ix fl fn vt .unset .unset md hi h100 hnd hmd hfl (by omega) hix rfl A_t K_ X
    · subst gcp
      refine s_iloadN X (pc' := 23) d57_22 rfl rfl ?_
      refine s_bipush X (pc' := 25) d57_23 (v := (-100 : Int32)) (by decide) rfl ?_
      refine s_icmpF X (pc' := 28) d57_25 (show ¬ (-100 : Int32) < i from fun z => by
        rw [Int32.lt_iff_toInt_lt, hi] at z
        have e9 : (-100 : Int32).toInt = -100 := rfl
        omega) rfl ?_
      refine s_iloadN X (pc' := 29) d57_28 rfl rfl ?_
      refine s_bipush X (pc' := 31) d57_29 (v := (100 : Int32)) (by decide) rfl ?_
      refine s_idiv X (pc' := 32) d57_31 (by decide) rfl ?_
      obtain ⟨q, gq⟩ : ∃ z, z = i / (100 : Int32) := ⟨_, rfl⟩
      rw [← gq]
      have hq : q.toInt = -((n / 100 : Nat) : Int) := by rw [gq]; exact div_q hi
      refine s_istoreN X (pc' := 33) (L' := #[.val (.int i), .val (.int (Int32.ofNat cp)), .val (.ref t), .val (.int q), .unset, .val (.int (Int32.ofNat cp)), .val (.int fl)]) d57_32 rfl rfl ?_
      refine s_iloadN X (pc' := 34) d57_33 rfl rfl ?_
      refine s_bipush X (pc' := 36) d57_34 (v := (100 : Int32)) (by decide) rfl ?_
      refine s_imul X (pc' := 37) d57_36 rfl ?_
      refine s_iloadN X (pc' := 38) d57_37 rfl rfl ?_
      refine s_isub X (pc' := 39) d57_38 rfl ?_
      refine go_int (z := (Int32.ofNat (n % 100))) (rem_r hi hq) ?_
      have m3 : 3 ≤ md := by
        rcases Nat.lt_or_ge md 3 with z | z
        · have : (10 : Nat) ^ md ≤ 10 ^ 2 := pow_le (by omega)
          omega
        · exact z
      have hnq : n / 100 < 10 ^ (md - 2) := by
        have e : (10 : Nat) ^ md = 10 ^ (md - 2) * 100 := by
          rw [show (100 : Nat) = 10 ^ 2 by decide, ← Nat.pow_add]; congr 1; omega
        rw [e] at hnd
        exact Nat.div_lt_of_lt_mul (by rw [Nat.mul_comm]; exact hnd)
      refine s_istore X (pc' := 41) (L' := #[.val (.int i), .val (.int (Int32.ofNat cp)), .val (.ref t), .val (.int q), .val (.int (Int32.ofNat (n % 100))), .val (.int (Int32.ofNat cp)), .val (.int fl)]) d57_39 rfl rfl ?_
      refine s_iloadN X (pc' := 42) d57_41 rfl rfl ?_
      refine s_istoreN X (pc' := 43) (L' := #[.val (.int q), .val (.int (Int32.ofNat cp)), .val (.ref t), .val (.int q), .val (.int (Int32.ofNat (n % 100))), .val (.int (Int32.ofNat cp)), .val (.int fl)]) d57_42 rfl rfl ?_
      refine s_aloadN X (pc' := 44) d57_43 rfl rfl rfl ?_
      refine s_iinc X (pc' := 47) (L' := #[.val (.int q), .val (.int (Int32.ofNat cp)), .val (.ref t), .val (.int q), .val (.int (Int32.ofNat (n % 100))), .val (.int ((Int32.ofNat cp) + (-1 : Int32))), .val (.int fl)]) d57_44 (v := (-1 : Int32)) (by decide) rfl rfl rfl ?_
      refine s_iload X (pc' := 49) d57_47 rfl rfl ?_
      refine s_gets X (pc' := 52) d57_49 (hw _ (List.mem_of_getElem? (i := 359) rfl)) Via.refl dg.1 rfl (fun T X => ?_)
      refine s_iload X (pc' := 54) d57_52 rfl rfl ?_
      obtain ⟨zb, hzb⟩ := ary_int (dg.2.2.1.ext X.old) (i := (n % 100)) (by rw [dg.2.2.2.2.1]; exact Nat.mod_lt _ (by decide))
      refine s_baload X (pc' := 55) (i := (n % 100)) d57_54 (dg.2.2.1.ext X.old) rfl hzb rfl ?_
      refine s_bastore X (pc' := 56) (i := cp - 1) d57_55 A_t (on_pred (by omega)) (by omega) g_t (by simp) rfl (fun T h74 X W75 A_t => ?_)
      replace K_ := K_.wr W75 (Or.inl (by simp))
      refine s_aloadN X (pc' := 57) d57_56 rfl rfl rfl ?_
      refine s_iinc X (pc' := 60) (L' := #[.val (.int q), .val (.int (Int32.ofNat cp)), .val (.ref t), .val (.int q), .val (.int (Int32.ofNat (n % 100))), .val (.int (((Int32.ofNat cp) + (-1 : Int32)) + (-1 : Int32))), .val (.int fl)]) d57_57 (v := (-1 : Int32)) (by decide) rfl rfl rfl ?_
      refine s_iload X (pc' := 62) d57_60 rfl rfl ?_
      refine s_gets X (pc' := 65) d57_62 (hw _ (List.mem_of_getElem? (i := 377) rfl)) Via.refl dg.2.1 rfl (fun T X => ?_)
      refine s_iload X (pc' := 67) d57_65 rfl rfl ?_
      obtain ⟨zb, hzb⟩ := ary_int (dg.2.2.2.1.ext X.old) (i := (n % 100)) (by rw [dg.2.2.2.2.2]; exact Nat.mod_lt _ (by decide))
      refine s_baload X (pc' := 68) (i := (n % 100)) d57_67 (dg.2.2.2.1.ext X.old) rfl hzb rfl ?_
      refine s_bastore X (pc' := 69) (i := cp - 2) d57_68 A_t (on_pred2 (by omega)) (by rw [List.length_set]; omega) g_t (by simp) rfl (fun T h76 X W77 A_t => ?_)
      replace K_ := K_.wr W77 (Or.inl (by simp))
      refine s_goto X (pc' := 22) d57_69 (by decide) (by decide) ?_
      show Go p e below _ T (mkF m 22 #[.val (.int q), .val (.int (Int32.ofNat cp)), .val (.ref t), .val (.int q), .val (.int (Int32.ofNat (n % 100))), .val (.int (((Int32.ofNat cp) + (-1 : Int32)) + (-1 : Int32))), .val (.int fl)] [])
      rw [on_pred2 (by omega)]
      exact loop (n / 100) T h76 q (n / 100) (cp - 2) fl fn _ q (Int32.ofNat (n % 100)) (md - 2) (Nat.le_refl _) hq hnq (by omega) hfl (by omega) (by omega) (List.length_set.trans List.length_set) A_t K_ X
  have bl := Int32.le_toInt x
  have bu := Int32.toInt_lt x
  have z0 : (0 : Int32).toInt = 0 := rfl
  refine s_iloadN X (pc' := 1) d57_0 rfl rfl ?_
  refine s_istore X (pc' := 3) (L' := #[.val (.int x), .val (.int (Int32.ofNat ix)), .val (.ref t), .unset, .unset, .val (.int (Int32.ofNat ix)), .unset]) d57_1 rfl rfl ?_
  refine s_iloadN X (pc' := 4) d57_3 rfl rfl ?_
  refine s_if X (pc' := 11) (pcF := 7) d57_4 (by decide) (by decide) rfl (fun (q0 : ¬ x < (0 : Int32)) => ?_) (fun (q0 : x < (0 : Int32)) => ?_)
  · have ng : ngN x = 0 := by unfold ngN; rw [if_neg q0]
    rw [ng] at hsz
    rw [Int32.lt_iff_toInt_lt, z0] at q0
    have hx0 : (-x).toInt = -(x.toInt.natAbs : Int) := by rw [neg_toInt (by omega)]; omega
    refine s_iconst X (pc' := 12) d57_11 (v := (0 : Int32)) rfl rfl ?_
    refine s_istore X (pc' := 14) (L' := #[.val (.int x), .val (.int (Int32.ofNat ix)), .val (.ref t), .unset, .unset, .val (.int (Int32.ofNat ix)), .val (.int (0 : Int32))]) d57_12 rfl rfl ?_
    refine s_iload X (pc' := 16) d57_14 rfl rfl ?_
    refine s_ifF X (pc' := 19) d57_16 (show (0 : Int32) = (0 : Int32) by decide) rfl ?_
    refine s_iloadN X (pc' := 20) d57_19 rfl rfl ?_
    refine s_ineg X (pc' := 21) d57_20 rfl ?_
    refine s_istoreN X (pc' := 22) (L' := #[.val (.int (-x)), .val (.int (Int32.ofNat ix)), .val (.ref t), .unset, .unset, .val (.int (Int32.ofNat ix)), .val (.int (0 : Int32))]) d57_21 rfl rfl ?_
    exact first T (-x) _ 0 0 hx0 hx (Or.inl ⟨rfl, rfl⟩) hsz X
  · have ng : ngN x = 1 := by unfold ngN; rw [if_pos q0]
    rw [ng] at hsz
    rw [Int32.lt_iff_toInt_lt, z0] at q0
    have hx0 : x.toInt = -(x.toInt.natAbs : Int) := by omega
    refine s_iconst X (pc' := 8) d57_7 (v := (1 : Int32)) rfl rfl ?_
    refine s_goto X (pc' := 12) d57_8 (by decide) (by decide) ?_
    refine s_istore X (pc' := 14) (L' := #[.val (.int x), .val (.int (Int32.ofNat ix)), .val (.ref t), .unset, .unset, .val (.int (Int32.ofNat ix)), .val (.int (1 : Int32))]) d57_12 rfl rfl ?_
    refine s_iload X (pc' := 16) d57_14 rfl rfl ?_
    refine s_ifT X (pc' := 22) d57_16 (show ¬ (1 : Int32) = (0 : Int32) by decide) (by decide) (by decide) ?_
    exact first T x _ 1 1 hx0 hx (Or.inr ⟨rfl, rfl⟩) hsz X
theorem d55_0 : decode jdk_68_method_32_code 0 = .ok (.aload_n 0, 1) := by decide +kernel
theorem d55_1 : decode jdk_68_method_32_code 1 = .ok (.getfield 79, 3) := by decide +kernel
theorem d55_4 : decode jdk_68_method_32_code 4 = .ok (.istore_n 2, 1) := by decide +kernel
theorem d55_5 : decode jdk_68_method_32_code 5 = .ok (.iload_n 2, 1) := by decide +kernel
theorem d55_6 : decode jdk_68_method_32_code 6 = .ok (.iload_n 1, 1) := by decide +kernel
theorem d55_7 : decode jdk_68_method_32_code 7 = .ok (.invokestatic 245, 3) := by decide +kernel
theorem d55_10 : decode jdk_68_method_32_code 10 = .ok (.iadd, 1) := by decide +kernel
theorem d55_11 : decode jdk_68_method_32_code 11 = .ok (.istore_n 3, 1) := by decide +kernel
theorem d55_12 : decode jdk_68_method_32_code 12 = .ok (.aload_n 0, 1) := by decide +kernel
theorem d55_13 : decode jdk_68_method_32_code 13 = .ok (.iload_n 3, 1) := by decide +kernel
theorem d55_14 : decode jdk_68_method_32_code 14 = .ok (.invokevirtual 100, 3) := by decide +kernel
theorem d55_17 : decode jdk_68_method_32_code 17 = .ok (.aload_n 0, 1) := by decide +kernel
theorem d55_18 : decode jdk_68_method_32_code 18 = .ok (.invokevirtual 83, 3) := by decide +kernel
theorem d55_21 : decode jdk_68_method_32_code 21 = .ok (.ifCond .eq 16, 3) := by decide +kernel
theorem d55_24 : decode jdk_68_method_32_code 24 = .ok (.iload_n 1, 1) := by decide +kernel
theorem d55_25 : decode jdk_68_method_32_code 25 = .ok (.iload_n 3, 1) := by decide +kernel
theorem d55_26 : decode jdk_68_method_32_code 26 = .ok (.aload_n 0, 1) := by decide +kernel
theorem d55_27 : decode jdk_68_method_32_code 27 = .ok (.getfield 15, 3) := by decide +kernel
theorem d55_30 : decode jdk_68_method_32_code 30 = .ok (.invokestatic 248, 3) := by decide +kernel
theorem d55_33 : decode jdk_68_method_32_code 33 = .ok (.pop, 1) := by decide +kernel
theorem d55_34 : decode jdk_68_method_32_code 34 = .ok (.goto 14, 3) := by decide +kernel
theorem d55_48 : decode jdk_68_method_32_code 48 = .ok (.aload_n 0, 1) := by decide +kernel
theorem d55_49 : decode jdk_68_method_32_code 49 = .ok (.iload_n 3, 1) := by decide +kernel
theorem d55_50 : decode jdk_68_method_32_code 50 = .ok (.putfield 79, 3) := by decide +kernel
theorem d55_53 : decode jdk_68_method_32_code 53 = .ok (.aload_n 0, 1) := by decide +kernel
theorem d55_54 : decode jdk_68_method_32_code 54 = .ok (.areturn, 1) := by decide +kernel
theorem ef_sb_ai (m : MethodId) (k : Addr) (x : Int32) : entryFrame m #[(.ref k), (.int x)] 4 = mkF m 0 #[.val (.ref k), .val (.int x), .unset, .unset] [] := by first | (simp [entryFrame, mkF, argsToLocals, Value.category]; done) | rfl
set_option maxRecDepth 65536 in
set_option maxHeartbeats 40000000 in
theorem sb_ai (l : Launch) (Z : State) (a0 : Array Value) (hw : ∀ d ∈ tables_1, d.before a0 Z = true) (hEL : EW Z a0 consts_1) (k : Addr) (x : Int32) (h : Heap) {t : Addr} {ds : List Int32} {r : List Value} {G1 : Int32} {dO dT : Addr} {vO vT : List Value} (S_k : SBD Z h k t ds r) (hv : ds.length + r.length ≤ 400) (h0 : 0 < ds.length + r.length) (hS : ∀ sz, sz ≤ 11 → capN (ds.length + r.length) (ds.length + sz) ≤ 40) (g_k : Z.heap.size ≤ k) (g_t : Z.heap.size ≤ t) (dg : Digs Z dO dT vO vT) (O2 : Sta Z Z.heap "java/lang/String" "COMPACT_STRINGS" "Z" (.int G1)) (P5 : ¬ (G1 = (0 : Int32))) :
    Con l Z consts_1 True (⟨"java/lang/AbstractStringBuilder", "append", "(I)Ljava/lang/AbstractStringBuilder;"⟩ : MethodName) jdk_68_method_32_code 4 (some (.object "java/lang/AbstractStringBuilder")) ({ frames := 4, cells := 1, slots := 40, locals := 62 } : Room) [k, t] #[(.ref k), (.int x)] h (fun v h' ws' => ∃ t' ds' r' sz, v = some (.ref k) ∧ Keep h h' [k, t] ∧ (t' = t ∨ h.size ≤ t') ∧ SBD Z h' k t' ds' r' ∧ Lat ds' ∧ 1 ≤ sz ∧ sz ≤ 11 ∧ ds'.length = ds.length + sz ∧ ds'.length + r'.length = capN (ds.length + r.length) (ds.length + sz) ∧ ws' = [t']) := by
  refine Con.intro own_pn26 (fun p e s m below meth c T X => ?_)
  rw [ef_sb_ai m k x]
  obtain ⟨E_k, F_k_value, F_k_coder, F_k_count, A_t, E_t⟩ := S_k
  have hvt : (bys ds ++ r).length = ds.length + r.length := by rw [List.length_append, bys_len]
  have hz0 := X.old.1
  refine s_aloadN X (pc' := 1) d55_0 rfl rfl rfl ?_
  refine s_getf X (pc' := 4) d55_1 (hw _ (List.mem_of_getElem? (i := 74) rfl)) Via.refl F_k_count rfl (fun T X => ?_)
  refine s_istoreN X (pc' := 5) (L' := #[.val (.ref k), .val (.int x), .val (.int (Int32.ofNat ds.length)), .unset]) d55_4 rfl rfl ?_
  refine s_iloadN X (pc' := 6) d55_5 rfl rfl ?_
  refine s_iloadN X (pc' := 7) d55_6 rfl rfl ?_
  refine s_static X (pc' := 10) (W := 1) (as' := [(.int x)]) (S := [(.int (Int32.ofNat ds.length))]) (k' := 0) (n' := 0) d55_7 (hw _ (List.mem_of_getElem? (i := 351) rfl)) (hw _ (List.mem_of_getElem? (i := 352) rfl)) (hw _ (List.mem_of_getElem? (i := 353) rfl)) (hw _ (List.mem_of_getElem? (i := 354) rfl)) (by decide) own_pd5 rfl ((sb_ss l Z a0 hw hEL x _).payS (by simp) (hw _ (List.mem_of_getElem? (i := 354) rfl)) (hw _ (List.mem_of_getElem? (i := 353) rfl)) hEL (by decide) (by decide)) (Nat.le_of_ble_eq_true rfl) rfl rfl (by decide) (by decide) (by decide) (by decide) rfl (fun T h78 v_ ws_ X hgr_ q79 => ?_)
  obtain ⟨sz, md, rfl, hsz, hmd, hmx, hxm, e_, rfl⟩ := q79
  rw [e_] at X
  show Go p e below _ T (mkF m 10 #[.val (.ref k), .val (.int x), .val (.int (Int32.ofNat ds.length)), .unset] [(.int (Int32.ofNat sz)), (.int (Int32.ofNat ds.length))])
  replace X := X.sub (ws' := [k, t]) (by simp)
  have hng : ngN x ≤ 1 := by unfold ngN; split <;> omega
  have hs11 : sz ≤ 11 := by omega
  refine s_iadd X (pc' := 11) d55_10 rfl ?_
  refine go_int (z := (Int32.ofNat (ds.length + sz))) (on_add _ _) ?_
  refine s_istoreN X (pc' := 12) (L' := #[.val (.ref k), .val (.int x), .val (.int (Int32.ofNat ds.length)), .val (.int (Int32.ofNat (ds.length + sz)))]) d55_11 rfl rfl ?_
  refine s_aloadN X (pc' := 13) d55_12 rfl rfl rfl ?_
  refine s_iloadN X (pc' := 14) d55_13 rfl rfl ?_
  refine s_priv X (pc' := 17) (W := 0) (as' := [(.int (Int32.ofNat (ds.length + sz)))]) (S := []) (k' := 1) (n' := 40) d55_14 (hw _ (List.mem_of_getElem? (i := 76) rfl)) (hw _ (List.mem_of_getElem? (i := 78) rfl)) (nfaceC (hw _ (List.mem_of_getElem? (i := 79) rfl)) rfl) (hw _ (List.mem_of_getElem? (i := 77) rfl)) (hw _ (List.mem_of_getElem? (i := 80) rfl)) (by decide) own_pd8 rfl E_k ((sb_ens l Z a0 hw hEL k (ds.length + sz) _ E_k g_k F_k_value F_k_coder F_k_count A_t E_t (by rw [hvt]; exact hv) (by rw [hvt]; exact h0) (by omega) (by rw [hvt]; exact hS sz hs11)).payS (by simp) (hw _ (List.mem_of_getElem? (i := 80) rfl)) (hw _ (List.mem_of_getElem? (i := 46) rfl)) hEL (by decide) (by decide)) (Nat.le_of_ble_eq_true rfl) rfl rfl (by decide) (by decide) (by decide) (by decide) rfl (fun T h80 v_ ws_ X hgr_ q81 => ?_)
  obtain ⟨t', z, rfl, K0_, G1_, G2_, G3_, hT, A_u, E_u, hzc, rfl⟩ := q81
  show Go p e below _ T (mkF m 17 #[.val (.ref k), .val (.int x), .val (.int (Int32.ofNat ds.length)), .val (.int (Int32.ofNat (ds.length + sz)))] [])
  replace X := X.sub (ws' := [t', k, t]) (by simp)
  replace E_k := E_k.keep K0_
  rw [hvt] at hzc
  have F_k_value := G1_
  have F_k_coder := G2_
  have F_k_count := G3_
  have g_u : Z.heap.size ≤ t' := hT.elim (fun q => by rw [q]; exact g_t) (fun q => Nat.le_trans hz0 q)
  have ne_u_k : t' ≠ k := Exa.ne E_u E_k (by decide)
  have hul : (bys ds ++ r ++ List.replicate z (Value.int (0 : Int32))).length = ds.length + r.length + z := by rw [List.length_append, hvt, List.length_replicate]
  have hneed : ds.length + sz ≤ ds.length + r.length + z := by
    rw [hzc, capN]; split <;> omega
  have hcp := hS sz hs11
  refine s_aloadN X (pc' := 18) d55_17 rfl rfl rfl ?_
  refine s_virtual X (pc' := 21) (W := 0) (as' := []) (S := []) (k' := 1) (n' := 40) d55_18 (hw _ (List.mem_of_getElem? (i := 355) rfl)) (hw _ (List.mem_of_getElem? (i := 130) rfl)) (hw _ (List.mem_of_getElem? (i := 132) rfl)) (hw _ (List.mem_of_getElem? (i := 131) rfl)) (nface (hw _ (List.mem_of_getElem? (i := 132) rfl))) (by decide) own_pd14 rfl E_k ((sb_isl l Z a0 hw hEL k _ F_k_coder O2 P5).payS (by simp) (hw _ (List.mem_of_getElem? (i := 133) rfl)) (hw _ (List.mem_of_getElem? (i := 46) rfl)) hEL (by decide) (by decide)) (Nat.le_of_ble_eq_true rfl) rfl rfl (by decide) (by decide) (by decide) (by decide) rfl (fun T h82 v_ ws_ X hgr_ q83 => ?_)
  obtain ⟨rfl, e_, rfl⟩ := q83
  rw [e_] at X
  show Go p e below _ T (mkF m 21 #[.val (.ref k), .val (.int x), .val (.int (Int32.ofNat ds.length)), .val (.int (Int32.ofNat (ds.length + sz)))] [(.int (1 : Int32))])
  replace X := X.sub (ws' := [t', k, t]) (by simp)
  refine s_ifF X (pc' := 24) d55_21 (show ¬ (1 : Int32) = (0 : Int32) by decide) rfl ?_
  refine s_iloadN X (pc' := 25) d55_24 rfl rfl ?_
  refine s_iloadN X (pc' := 26) d55_25 rfl rfl ?_
  refine s_aloadN X (pc' := 27) d55_26 rfl rfl rfl ?_
  refine s_getf X (pc' := 30) d55_27 (hw _ (List.mem_of_getElem? (i := 50) rfl)) Via.refl F_k_value rfl (fun T X => ?_)
  refine s_static X (pc' := 33) (W := 0) (as' := [(.int x), (.int (Int32.ofNat (ds.length + sz))), (.ref t')]) (S := []) (k' := 1) (n' := 40) d55_30 (hw _ (List.mem_of_getElem? (i := 356) rfl)) (hw _ (List.mem_of_getElem? (i := 357) rfl)) (hw _ (List.mem_of_getElem? (i := 353) rfl)) (hw _ (List.mem_of_getElem? (i := 358) rfl)) (by decide) own_pd17 rfl ((sb_gc l Z a0 hw hEL x (ds.length + sz) t' _ A_u (by rw [hul]; omega) (by rw [hul]; exact hneed) hmd hmx hxm (by omega) g_u dg).payS (by simp) (hw _ (List.mem_of_getElem? (i := 358) rfl)) (hw _ (List.mem_of_getElem? (i := 353) rfl)) hEL (by decide) (by decide)) (Nat.le_of_ble_eq_true rfl) rfl rfl (by decide) (by decide) (by decide) (by decide) rfl (fun T h84 v_ ws_ X hgr_ q85 => ?_)
  obtain ⟨zr, rfl, K1_, ⟨vs, hvl, A_v⟩, rfl⟩ := q85
  show Go p e below _ T (mkF m 33 #[.val (.ref k), .val (.int x), .val (.int (Int32.ofNat ds.length)), .val (.int (Int32.ofNat (ds.length + sz)))] [(.int zr)])
  replace X := X.sub (ws' := [t', k]) (by simp)
  have ne_k_t' := ne_u_k.symm
  replace E_u := E_u.keep K1_
  replace F_k_value := F_k_value.keep K1_ (ninS ne_k_t' nin0)
  replace F_k_coder := F_k_coder.keep K1_ (ninS ne_k_t' nin0)
  replace F_k_count := F_k_count.keep K1_ (ninS ne_k_t' nin0)
  replace E_k := E_k.keep K1_
  have K_ : Keep h h84 [k, t] := (Keep.refl h [k, t]).trans K0_ (allS (Or.inl (by simp)) all0) |>.trans K1_ (allS (hT.elim (fun q => Or.inl (by rw [q]; simp)) Or.inr) all0)
  obtain ⟨es, les, ees⟩ := chars_of vs (by obtain ⟨_, _, _, _, q⟩ := A_v; exact q)
  have elen : es.length = ds.length + r.length + z := by rw [← bys_len, ees, hvl, hul]
  have A_t' := A_v
  have ne_t'_k := ne_u_k
  have E_t' := E_u
  refine s_pop X (pc' := 34) d55_33 rfl rfl ?_
  refine s_goto X (pc' := 48) d55_34 (by decide) (by decide) ?_
  refine s_aloadN X (pc' := 49) d55_48 rfl rfl rfl ?_
  refine s_iloadN X (pc' := 50) d55_49 rfl rfl ?_
  refine s_putf X (pc' := 53) d55_50 (hw _ (List.mem_of_getElem? (i := 74) rfl)) Via.refl F_k_count E_k (Or.inl (hw _ (List.mem_of_getElem? (i := 75) rfl))) (hw _ (List.mem_of_getElem? (i := 37) rfl)) (ty := .int) (by decide) rfl rfl g_k (by simp) rfl (fun T h86 X W87 => ?_)
  replace F_k_value := F_k_value.other W87 (Or.inr (slot_ne (Or.inl (hw _ (List.mem_of_getElem? (i := 51) rfl))) (Or.inl (hw _ (List.mem_of_getElem? (i := 75) rfl))) (t := (.array .byte)) (t' := .int) (by decide) (by decide) (by decide)))
  replace F_k_coder := F_k_coder.other W87 (Or.inr (slot_ne (Or.inl (hw _ (List.mem_of_getElem? (i := 53) rfl))) (Or.inl (hw _ (List.mem_of_getElem? (i := 75) rfl))) (t := .byte) (t' := .int) (by decide) (by decide) (by decide)))
  replace F_k_count := F_k_count.same W87
  replace A_t' := A_t'.other W87 ne_t'_k
  replace E_k := E_k.wr W87
  replace E_t' := E_t'.wr W87
  replace K_ := K_.wr W87 (Or.inl (by simp))
  refine s_aloadN X (pc' := 54) d55_53 rfl rfl rfl ?_
  have tl : (es.take (ds.length + sz)).length = ds.length + sz := by rw [List.length_take]; omega
  have A_w : Ary Z h86 t' .byte (bys (es.take (ds.length + sz)) ++ bys (es.drop (ds.length + sz))) := by rw [← bys_app, List.take_append_drop, ees]; exact A_t'
  exact s_aret X hEL (ws' := [t']) (t := (.object "java/lang/AbstractStringBuilder")) d55_54 rfl rfl rfl rfl (by decide) (by decide) (by simp) ⟨t', es.take (ds.length + sz), bys (es.drop (ds.length + sz)), sz, rfl, K_, hT, ⟨E_k, F_k_value, F_k_coder, (by rw [tl]; exact F_k_count), A_w, E_t'⟩, les.take _, (by omega), hs11, tl, (by rw [tl, bys_len, List.length_drop, ← hzc]; omega), rfl⟩
theorem d54_0 : decode jdk_67_method_15_code 0 = .ok (.aload_n 0, 1) := by decide +kernel
theorem d54_1 : decode jdk_67_method_15_code 1 = .ok (.iload_n 1, 1) := by decide +kernel
theorem d54_2 : decode jdk_67_method_15_code 2 = .ok (.invokespecial 53, 3) := by decide +kernel
theorem d54_5 : decode jdk_67_method_15_code 5 = .ok (.pop, 1) := by decide +kernel
theorem d54_6 : decode jdk_67_method_15_code 6 = .ok (.aload_n 0, 1) := by decide +kernel
theorem d54_7 : decode jdk_67_method_15_code 7 = .ok (.areturn, 1) := by decide +kernel
theorem ef_sb_si (m : MethodId) (k : Addr) (x : Int32) : entryFrame m #[(.ref k), (.int x)] 2 = mkF m 0 #[.val (.ref k), .val (.int x)] [] := by first | (simp [entryFrame, mkF, argsToLocals, Value.category]; done) | rfl
set_option maxRecDepth 65536 in
set_option maxHeartbeats 40000000 in
theorem sb_si (l : Launch) (Z : State) (a0 : Array Value) (hw : ∀ d ∈ tables_1, d.before a0 Z = true) (hEL : EW Z a0 consts_1) (k : Addr) (x : Int32) (h : Heap) {t : Addr} {ds : List Int32} {r : List Value} {G1 : Int32} {dO dT : Addr} {vO vT : List Value} (S_k : SBD Z h k t ds r) (hv : ds.length + r.length ≤ 400) (h0 : 0 < ds.length + r.length) (hS : ∀ sz, sz ≤ 11 → capN (ds.length + r.length) (ds.length + sz) ≤ 40) (g_k : Z.heap.size ≤ k) (g_t : Z.heap.size ≤ t) (dg : Digs Z dO dT vO vT) (O2 : Sta Z Z.heap "java/lang/String" "COMPACT_STRINGS" "Z" (.int G1)) (P5 : ¬ (G1 = (0 : Int32))) :
    Con l Z consts_1 True (⟨"java/lang/StringBuilder", "append", "(I)Ljava/lang/StringBuilder;"⟩ : MethodName) jdk_67_method_15_code 2 (some (.object "java/lang/StringBuilder")) ({ frames := 5, cells := 1, slots := 40, locals := 77 } : Room) [k, t] #[(.ref k), (.int x)] h (fun v h' ws' => ∃ t' ds' r' sz, v = some (.ref k) ∧ Keep h h' [k, t] ∧ (t' = t ∨ h.size ≤ t') ∧ SBD Z h' k t' ds' r' ∧ Lat ds' ∧ 1 ≤ sz ∧ sz ≤ 11 ∧ ds'.length = ds.length + sz ∧ ds'.length + r'.length = capN (ds.length + r.length) (ds.length + sz) ∧ ws' = [t']) := by
  refine Con.intro own_pn27 (fun p e s m below meth c T X => ?_)
  rw [ef_sb_si m k x]
  have E_k := S_k.1
  refine s_aloadN X (pc' := 1) d54_0 rfl rfl rfl ?_
  refine s_iloadN X (pc' := 2) d54_1 rfl rfl ?_
  refine s_super X (pc' := 5) (W := 0) (as' := [(.int x)]) (S := []) (k' := 1) (n' := 40) d54_2 (hw _ (List.mem_of_getElem? (i := 347) rfl)) (same_of (hw _ (List.mem_of_getElem? (i := 349) rfl)) (hw _ (List.mem_of_getElem? (i := 79) rfl)) rfl (by decide)) (hw _ (List.mem_of_getElem? (i := 348) rfl)) (hw _ (List.mem_of_getElem? (i := 61) rfl)) (hw _ (List.mem_of_getElem? (i := 350) rfl)) (by decide) own_pd18 rfl (Ins.self E_k) ((sb_ai l Z a0 hw hEL k x _ S_k hv h0 hS g_k g_t dg O2 P5).payS (by simp) (hw _ (List.mem_of_getElem? (i := 350) rfl)) (hw _ (List.mem_of_getElem? (i := 46) rfl)) hEL (by decide) (by decide)) (Nat.le_of_ble_eq_true rfl) rfl rfl (by decide) (by decide) (by decide) (by decide) rfl (fun T h88 v_ ws_ X hgr_ q89 => ?_)
  obtain ⟨t', ds', r', sz, rfl, K_, hT, S_k', l1, l2, l3, l4, l5, rfl⟩ := q89
  show Go p e below _ T (mkF m 5 #[.val (.ref k), .val (.int x)] [(.ref k)])
  replace X := X.sub (ws' := [t']) (by simp)
  refine s_pop X (pc' := 6) d54_5 rfl rfl ?_
  refine s_aloadN X (pc' := 7) d54_6 rfl rfl rfl ?_
  exact s_aret X hEL (ws' := [t']) (t := (.object "java/lang/StringBuilder")) d54_7 rfl rfl rfl rfl (by decide) (by decide) (by simp) ⟨t', ds', r', sz, rfl, K_, hT, S_k', l1, l2, l3, l4, l5, rfl⟩

theorem own_known {s : State} {m : MethodId} {args : Array Value} {below : List Frame} (hF : framesKnown s = true) (hT : tablesKnown s = true) (hf : s.frames = .invoking m args :: below) : s.vm.MethodsKnown ∧ s.vm.FramesKnown below := by
  have km : ∀ {m' : MethodId}, methodKnown s.vm m' = true → s.vm.knowsMethod m' := fun {m'} q => by
    unfold methodKnown at q
    cases hk : s.vm.classes[m'.cls]? with
    | none => simp [hk] at q
    | some k => exact ⟨k, hk, fun cf hcf => by simpa [hk, hcf] using q⟩
  constructor
  · intro m' xx hm
    obtain ⟨k, hk, hm2⟩ := Option.bind_eq_some_iff.mp hm
    refine ⟨k, hk, fun cf hcf => ?_⟩
    have h1 := (Array.all_eq_true_iff_forall_mem.mp hT) k (Array.mem_of_getElem? hk)
    simp only [hcf, beq_iff_eq] at h1
    have hlt := (Array.getElem?_eq_some_iff.mp hm2).1
    rw [h1] at hlt
    simp [hlt]
  · intro fr hfr m' hm'
    unfold framesKnown at hF
    rw [hf] at hF
    have h1 := (List.all_eq_true.mp hF) fr (List.mem_cons_of_mem _ hfr)
    cases fr with
    | java g => cases hm'; exact km h1
    | native g => cases hm'; exact km h1
    | _ => cases hm'
theorem dig_at {Z : State} {a1 a0 : Array Value} {t : Term} (hf : Fit Z) (hx : (Jvm.Cond.exactly t "[B").value a1 Z none Z [] = some true) (hl : (Jvm.Cond.eq (Term.length t) (.int 100)).value a1 Z none Z [] = some true) (wc : (Jvm.Cond.arrayClass .byte).before a0 Z = true) : ∃ a vs, t.eval a1 Z none [] Z = some (.ref a) ∧ Own.Ary Z Z.heap a .byte vs ∧ vs.length = 100 := by
  obtain ⟨a, ev⟩ := exa_v hx
  obtain ⟨cell, k, h1, h2, h3, h4, -⟩ := Exa.start ev hx
  obtain ⟨cA, kA, comp, q1, q2, q3⟩ := Cond.arrayClass_spec wc
  have q1' : Z.vm.findClass "[B" = some cA := q1
  cases h2.symm.trans q1'
  cases h3.symm.trans q2
  have hv : cell.vm ≠ .unknown := by
    obtain ⟨v, r1, r2⟩ := Cond.eq_worth hl
    simp only [Term.eval, Option.bind_eq_bind, ev, Option.bind_some] at r1
    obtain ⟨c2, hc2, r1⟩ := Option.bind_eq_some_iff.mp r1
    obtain ⟨z1, z2, -⟩ := State.arrayAt?_spec hc2
    cases h1.symm.trans z1; exact z2
  obtain ⟨vs, A, hn⟩ := ary_any (N := 100) hf ev ⟨cell, h1, ⟨fun kk z => (by rw [z] at h4; cases h4), k, h3, comp, q3⟩, hv⟩ hl rfl (by decide)
  exact ⟨a, vs, ev, A, hn⟩
theorem own_xw_ie {Z : State} {a0 : Array Value} (hw : ∀ d ∈ tables_1, d.before a0 Z = true) : ∀ d ∈ excW "com/example/vestwright/vestwright/input/InputException", d.before a0 Z = true := fun d hd => hw d ((by decide +kernel : ∀ d ∈ excW "com/example/vestwright/vestwright/input/InputException", d ∈ tables_1) d hd)
theorem d30_0 : decode jdk_78_method_2_code 0 = .ok (.aload_n 0, 1) := by decide +kernel
theorem d30_1 : decode jdk_78_method_2_code 1 = .ok (.invokespecial 1, 3) := by decide +kernel
theorem d30_4 : decode jdk_78_method_2_code 4 = .ok (.aload_n 0, 1) := by decide +kernel
theorem d30_5 : decode jdk_78_method_2_code 5 = .ok (.aload_n 0, 1) := by decide +kernel
theorem d30_6 : decode jdk_78_method_2_code 6 = .ok (.putfield 7, 3) := by decide +kernel
theorem d30_9 : decode jdk_78_method_2_code 9 = .ok (.aload_n 0, 1) := by decide +kernel
theorem d30_10 : decode jdk_78_method_2_code 10 = .ok (.getstatic 13, 3) := by decide +kernel
theorem d30_13 : decode jdk_78_method_2_code 13 = .ok (.putfield 17, 3) := by decide +kernel
theorem d30_16 : decode jdk_78_method_2_code 16 = .ok (.aload_n 0, 1) := by decide +kernel
theorem d30_17 : decode jdk_78_method_2_code 17 = .ok (.getstatic 20, 3) := by decide +kernel
theorem d30_20 : decode jdk_78_method_2_code 20 = .ok (.putfield 24, 3) := by decide +kernel
theorem d30_23 : decode jdk_78_method_2_code 23 = .ok (.aload_n 0, 1) := by decide +kernel
theorem d30_24 : decode jdk_78_method_2_code 24 = .ok (.invokevirtual 27, 3) := by decide +kernel
theorem d30_27 : decode jdk_78_method_2_code 27 = .ok (.pop, 1) := by decide +kernel
theorem d30_28 : decode jdk_78_method_2_code 28 = .ok (.aload_n 0, 1) := by decide +kernel
theorem d30_29 : decode jdk_78_method_2_code 29 = .ok (.aload_n 1, 1) := by decide +kernel
theorem d30_30 : decode jdk_78_method_2_code 30 = .ok (.putfield 31, 3) := by decide +kernel
theorem d30_33 : decode jdk_78_method_2_code 33 = .ok (.return_, 1) := by decide +kernel
theorem d29_0 : decode jdk_59_method_2_code 0 = .ok (.aload_n 0, 1) := by decide +kernel
theorem d29_1 : decode jdk_59_method_2_code 1 = .ok (.aload_n 1, 1) := by decide +kernel
theorem d29_2 : decode jdk_59_method_2_code 2 = .ok (.invokespecial 7, 3) := by decide +kernel
theorem d29_5 : decode jdk_59_method_2_code 5 = .ok (.return_, 1) := by decide +kernel
theorem ef_own_th1_ie (m : MethodId) (k mg : Addr) : entryFrame m #[(.ref k), (.ref mg)] 2 = mkF m 0 #[.val (.ref k), .val (.ref mg)] [] := by first | (simp [entryFrame, mkF, argsToLocals, Value.category]; done) | rfl
set_option maxRecDepth 65536 in
set_option maxHeartbeats 40000000 in
theorem own_th1_ie (l : Launch) (Z : State) (a0 : Array Value) (hw : ∀ d ∈ tables_1, d.before a0 Z = true) (hEL : EW Z a0 consts_1) (k mg : Addr) (h : Heap) {us ss : Addr} (g_k : Z.heap.size ≤ k) (E_k : Exa Z h k "com/example/vestwright/vestwright/input/InputException") (U_k : Unt h k) (F_k_cause : Fld Z h k "java/lang/Throwable" "cause" "Ljava/lang/Throwable;" .null) (F_k_stackTrace : Fld Z h k "java/lang/Throwable" "stackTrace" "[Ljava/lang/StackTraceElement;" .null) (F_k_suppressedExceptions : Fld Z h k "java/lang/Throwable" "suppressedExceptions" "Ljava/util/List;" .null) (F_k_backtrace : Fld Z h k "java/lang/Throwable" "backtrace" "Ljava/lang/Object;" .null) (F_k_detailMessage : Fld Z h k "java/lang/Throwable" "detailMessage" "Ljava/lang/String;" .null) (Us : Sta Z Z.heap "java/lang/Throwable" "UNASSIGNED_STACK" "[Ljava/lang/StackTraceElement;" (.ref us)) (Ss : Sta Z Z.heap "java/lang/Throwable" "SUPPRESSED_SENTINEL" "Ljava/util/List;" (.ref ss)) (hlt : l.stackTraces = true) :
    Con l Z consts_1 True (⟨"java/lang/Throwable", "<init>", "(Ljava/lang/String;)V"⟩ : MethodName) jdk_78_method_2_code 2 none ({ frames := 3, cells := 1, slots := 2752, locals := 42 } : Room) [k] #[(.ref k), (.ref mg)] h (fun v h' ws' => v = none ∧ Kp Z h h' k ∧ Exa Z h' k "com/example/vestwright/vestwright/input/InputException" ∧ Unt h' k ∧ Fld Z h' k "java/lang/Throwable" "detailMessage" "Ljava/lang/String;" (.ref mg) ∧ Fld Z h' k "java/lang/Throwable" "cause" "Ljava/lang/Throwable;" (.ref k) ∧ ws' = []) := by
  refine Con.intro own_pn28 (fun p e s m below meth c T X => ?_)
  rw [ef_own_th1_ie m k mg]
  have KP_ : Kp Z h h k := kp_refl _
  refine s_aloadN X (pc' := 1) d30_0 rfl rfl rfl ?_
  refine s_initO X (pc' := 4) (W := 0) d30_1 (hw _ (List.mem_of_getElem? (i := 160) rfl)) (hw _ (List.mem_of_getElem? (i := 12) rfl)) (b' := object_method_1_code) rfl (hw _ (List.mem_of_getElem? (i := 13) rfl)) (Nat.le_of_ble_eq_true rfl) (by decide) (by decide) rfl rfl (fun T X => ?_)
  refine s_aloadN X (pc' := 5) d30_4 rfl rfl rfl ?_
  refine s_aloadN X (pc' := 6) d30_5 rfl rfl rfl ?_
  refine s_putf X (pc' := 9) d30_6 (hw _ (List.mem_of_getElem? (i := 161) rfl)) Via.refl F_k_cause E_k (Or.inl (hw _ (List.mem_of_getElem? (i := 162) rfl))) (hw _ (List.mem_of_getElem? (i := 31) rfl)) (ty := (.object "java/lang/Throwable")) (by decide) rfl rfl g_k (by simp) rfl (fun T h90 X W91 => ?_)
  replace F_k_cause := F_k_cause.same W91
  replace F_k_stackTrace := F_k_stackTrace.other W91 (Or.inr (slot_ne (Or.inl (hw _ (List.mem_of_getElem? (i := 165) rfl))) (Or.inl (hw _ (List.mem_of_getElem? (i := 162) rfl))) (t := (.array (.object "java/lang/StackTraceElement"))) (t' := (.object "java/lang/Throwable")) (by decide) (by decide) (by decide)))
  replace F_k_suppressedExceptions := F_k_suppressedExceptions.other W91 (Or.inr (slot_ne (Or.inl (hw _ (List.mem_of_getElem? (i := 168) rfl))) (Or.inl (hw _ (List.mem_of_getElem? (i := 162) rfl))) (t := (.object "java/util/List")) (t' := (.object "java/lang/Throwable")) (by decide) (by decide) (by decide)))
  replace F_k_backtrace := F_k_backtrace.other W91 (Or.inr (slot_ne (Or.inl (hw _ (List.mem_of_getElem? (i := 193) rfl))) (Or.inl (hw _ (List.mem_of_getElem? (i := 162) rfl))) (t := (.object "java/lang/Object")) (t' := (.object "java/lang/Throwable")) (by decide) (by decide) (by decide)))
  replace F_k_detailMessage := F_k_detailMessage.other W91 (Or.inr (slot_ne (Or.inl (hw _ (List.mem_of_getElem? (i := 192) rfl))) (Or.inl (hw _ (List.mem_of_getElem? (i := 162) rfl))) (t := (.object "java/lang/String")) (t' := (.object "java/lang/Throwable")) (by decide) (by decide) (by decide)))
  replace E_k := E_k.wr W91
  replace KP_ := kp_wr KP_ W91 (by decide +kernel)
  refine s_aloadN X (pc' := 10) d30_9 rfl rfl rfl ?_
  refine s_gets X (pc' := 13) d30_10 (hw _ (List.mem_of_getElem? (i := 163) rfl)) Via.refl Us rfl (fun T X => ?_)
  refine s_putf X (pc' := 16) d30_13 (hw _ (List.mem_of_getElem? (i := 164) rfl)) Via.refl F_k_stackTrace E_k (Or.inl (hw _ (List.mem_of_getElem? (i := 165) rfl))) (hw _ (List.mem_of_getElem? (i := 31) rfl)) (ty := (.array (.object "java/lang/StackTraceElement"))) (by decide) rfl rfl g_k (by simp) rfl (fun T h92 X W93 => ?_)
  replace F_k_cause := F_k_cause.other W93 (Or.inr (slot_ne (Or.inl (hw _ (List.mem_of_getElem? (i := 162) rfl))) (Or.inl (hw _ (List.mem_of_getElem? (i := 165) rfl))) (t := (.object "java/lang/Throwable")) (t' := (.array (.object "java/lang/StackTraceElement"))) (by decide) (by decide) (by decide)))
  replace F_k_stackTrace := F_k_stackTrace.same W93
  replace F_k_suppressedExceptions := F_k_suppressedExceptions.other W93 (Or.inr (slot_ne (Or.inl (hw _ (List.mem_of_getElem? (i := 168) rfl))) (Or.inl (hw _ (List.mem_of_getElem? (i := 165) rfl))) (t := (.object "java/util/List")) (t' := (.array (.object "java/lang/StackTraceElement"))) (by decide) (by decide) (by decide)))
  replace F_k_backtrace := F_k_backtrace.other W93 (Or.inr (slot_ne (Or.inl (hw _ (List.mem_of_getElem? (i := 193) rfl))) (Or.inl (hw _ (List.mem_of_getElem? (i := 165) rfl))) (t := (.object "java/lang/Object")) (t' := (.array (.object "java/lang/StackTraceElement"))) (by decide) (by decide) (by decide)))
  replace F_k_detailMessage := F_k_detailMessage.other W93 (Or.inr (slot_ne (Or.inl (hw _ (List.mem_of_getElem? (i := 192) rfl))) (Or.inl (hw _ (List.mem_of_getElem? (i := 165) rfl))) (t := (.object "java/lang/String")) (t' := (.array (.object "java/lang/StackTraceElement"))) (by decide) (by decide) (by decide)))
  replace E_k := E_k.wr W93
  replace KP_ := kp_wr KP_ W93 (by decide +kernel)
  refine s_aloadN X (pc' := 17) d30_16 rfl rfl rfl ?_
  refine s_gets X (pc' := 20) d30_17 (hw _ (List.mem_of_getElem? (i := 166) rfl)) Via.refl Ss rfl (fun T X => ?_)
  refine s_putf X (pc' := 23) d30_20 (hw _ (List.mem_of_getElem? (i := 167) rfl)) Via.refl F_k_suppressedExceptions E_k (Or.inl (hw _ (List.mem_of_getElem? (i := 168) rfl))) (hw _ (List.mem_of_getElem? (i := 31) rfl)) (ty := (.object "java/util/List")) (by decide) rfl rfl g_k (by simp) rfl (fun T h94 X W95 => ?_)
  replace F_k_cause := F_k_cause.other W95 (Or.inr (slot_ne (Or.inl (hw _ (List.mem_of_getElem? (i := 162) rfl))) (Or.inl (hw _ (List.mem_of_getElem? (i := 168) rfl))) (t := (.object "java/lang/Throwable")) (t' := (.object "java/util/List")) (by decide) (by decide) (by decide)))
  replace F_k_stackTrace := F_k_stackTrace.other W95 (Or.inr (slot_ne (Or.inl (hw _ (List.mem_of_getElem? (i := 165) rfl))) (Or.inl (hw _ (List.mem_of_getElem? (i := 168) rfl))) (t := (.array (.object "java/lang/StackTraceElement"))) (t' := (.object "java/util/List")) (by decide) (by decide) (by decide)))
  replace F_k_suppressedExceptions := F_k_suppressedExceptions.same W95
  replace F_k_backtrace := F_k_backtrace.other W95 (Or.inr (slot_ne (Or.inl (hw _ (List.mem_of_getElem? (i := 193) rfl))) (Or.inl (hw _ (List.mem_of_getElem? (i := 168) rfl))) (t := (.object "java/lang/Object")) (t' := (.object "java/util/List")) (by decide) (by decide) (by decide)))
  replace F_k_detailMessage := F_k_detailMessage.other W95 (Or.inr (slot_ne (Or.inl (hw _ (List.mem_of_getElem? (i := 192) rfl))) (Or.inl (hw _ (List.mem_of_getElem? (i := 168) rfl))) (t := (.object "java/lang/String")) (t' := (.object "java/util/List")) (by decide) (by decide) (by decide)))
  replace E_k := E_k.wr W95
  replace KP_ := kp_wr KP_ W95 (by decide +kernel)
  refine s_aloadN X (pc' := 24) d30_23 rfl rfl rfl ?_
  refine s_fill X trivial hlt (rc := "com/example/vestwright/vestwright/input/InputException") (pc' := 27) (k' := 1) (n' := 2752) d30_24 rfl (own_xw_ie hw) (hw _ (List.mem_of_getElem? (i := 31) rfl)) Us E_k (U_k.kp KP_) F_k_stackTrace F_k_backtrace g_k (by simp) rfl (by decide) (by decide) (by decide) (by decide) (by decide) (by decide) rfl (fun T h96 X Kf_ E_k U1_k kf_ => ?_)
  replace KP_ := kp_trans KP_ Kf_
  replace F_k_detailMessage := kf_ F_k_detailMessage (slot_ne (Or.inl (hw _ (List.mem_of_getElem? (i := 193) rfl))) (Or.inl (hw _ (List.mem_of_getElem? (i := 192) rfl))) (t := (.object "java/lang/Object")) (t' := (.object "java/lang/String")) (by decide) (by decide) (by decide)) (slot_ne (Or.inl (hw _ (List.mem_of_getElem? (i := 194) rfl))) (Or.inl (hw _ (List.mem_of_getElem? (i := 192) rfl))) (t := .int) (t' := (.object "java/lang/String")) (by decide) (by decide) (by decide)) (slot_ne (Or.inl (hw _ (List.mem_of_getElem? (i := 165) rfl))) (Or.inl (hw _ (List.mem_of_getElem? (i := 192) rfl))) (t := (.array (.object "java/lang/StackTraceElement"))) (t' := (.object "java/lang/String")) (by decide) (by decide) (by decide))
  replace F_k_cause := kf_ F_k_cause (slot_ne (Or.inl (hw _ (List.mem_of_getElem? (i := 193) rfl))) (Or.inl (hw _ (List.mem_of_getElem? (i := 162) rfl))) (t := (.object "java/lang/Object")) (t' := (.object "java/lang/Throwable")) (by decide) (by decide) (by decide)) (slot_ne (Or.inl (hw _ (List.mem_of_getElem? (i := 194) rfl))) (Or.inl (hw _ (List.mem_of_getElem? (i := 162) rfl))) (t := .int) (t' := (.object "java/lang/Throwable")) (by decide) (by decide) (by decide)) (slot_ne (Or.inl (hw _ (List.mem_of_getElem? (i := 165) rfl))) (Or.inl (hw _ (List.mem_of_getElem? (i := 162) rfl))) (t := (.array (.object "java/lang/StackTraceElement"))) (t' := (.object "java/lang/Throwable")) (by decide) (by decide) (by decide))
  refine s_pop X (pc' := 28) d30_27 rfl rfl ?_
  refine s_aloadN X (pc' := 29) d30_28 rfl rfl rfl ?_
  refine s_aloadN X (pc' := 30) d30_29 rfl rfl rfl ?_
  refine s_putf X (pc' := 33) d30_30 (hw _ (List.mem_of_getElem? (i := 196) rfl)) Via.refl F_k_detailMessage E_k (Or.inl (hw _ (List.mem_of_getElem? (i := 192) rfl))) (hw _ (List.mem_of_getElem? (i := 31) rfl)) (ty := (.object "java/lang/String")) (by decide) rfl rfl g_k (by simp) rfl (fun T h97 X W98 => ?_)
  replace F_k_cause := F_k_cause.other W98 (Or.inr (slot_ne (Or.inl (hw _ (List.mem_of_getElem? (i := 162) rfl))) (Or.inl (hw _ (List.mem_of_getElem? (i := 192) rfl))) (t := (.object "java/lang/Throwable")) (t' := (.object "java/lang/String")) (by decide) (by decide) (by decide)))
  replace F_k_detailMessage := F_k_detailMessage.same W98
  replace E_k := E_k.wr W98
  replace KP_ := kp_wr KP_ W98 (by decide +kernel)
  exact s_ret X hEL (ws' := []) d30_33 (by decide) (by decide) (fun x q => by simp at q) ⟨rfl, KP_, E_k, U_k.kp KP_, F_k_detailMessage, F_k_cause, rfl⟩
theorem ef_own_ex1_ie (m : MethodId) (k mg : Addr) : entryFrame m #[(.ref k), (.ref mg)] 2 = mkF m 0 #[.val (.ref k), .val (.ref mg)] [] := by first | (simp [entryFrame, mkF, argsToLocals, Value.category]; done) | rfl
set_option maxRecDepth 65536 in
set_option maxHeartbeats 40000000 in
theorem own_ex1_ie (l : Launch) (Z : State) (a0 : Array Value) (hw : ∀ d ∈ tables_1, d.before a0 Z = true) (hEL : EW Z a0 consts_1) (k mg : Addr) (h : Heap) {us ss : Addr} (g_k : Z.heap.size ≤ k) (E_k : Exa Z h k "com/example/vestwright/vestwright/input/InputException") (U_k : Unt h k) (F_k_cause : Fld Z h k "java/lang/Throwable" "cause" "Ljava/lang/Throwable;" .null) (F_k_stackTrace : Fld Z h k "java/lang/Throwable" "stackTrace" "[Ljava/lang/StackTraceElement;" .null) (F_k_suppressedExceptions : Fld Z h k "java/lang/Throwable" "suppressedExceptions" "Ljava/util/List;" .null) (F_k_backtrace : Fld Z h k "java/lang/Throwable" "backtrace" "Ljava/lang/Object;" .null) (F_k_detailMessage : Fld Z h k "java/lang/Throwable" "detailMessage" "Ljava/lang/String;" .null) (Us : Sta Z Z.heap "java/lang/Throwable" "UNASSIGNED_STACK" "[Ljava/lang/StackTraceElement;" (.ref us)) (Ss : Sta Z Z.heap "java/lang/Throwable" "SUPPRESSED_SENTINEL" "Ljava/util/List;" (.ref ss)) (hlt : l.stackTraces = true) :
    Con l Z consts_1 True (⟨"java/lang/Exception", "<init>", "(Ljava/lang/String;)V"⟩ : MethodName) jdk_59_method_2_code 2 none ({ frames := 4, cells := 1, slots := 2752, locals := 55 } : Room) [k] #[(.ref k), (.ref mg)] h (fun v h' ws' => v = none ∧ Kp Z h h' k ∧ Exa Z h' k "com/example/vestwright/vestwright/input/InputException" ∧ Unt h' k ∧ Fld Z h' k "java/lang/Throwable" "detailMessage" "Ljava/lang/String;" (.ref mg) ∧ Fld Z h' k "java/lang/Throwable" "cause" "Ljava/lang/Throwable;" (.ref k) ∧ ws' = []) := by
  refine Con.intro own_pn29 (fun p e s m below meth c T X => ?_)
  rw [ef_own_ex1_ie m k mg]
  refine s_aloadN X (pc' := 1) d29_0 rfl rfl rfl ?_
  refine s_aloadN X (pc' := 2) d29_1 rfl rfl rfl ?_
  refine s_special X (pc' := 5) (W := 0) (as' := [(.ref mg)]) (S := []) (k' := 1) (n' := 2752) d29_2 rfl (hw _ (List.mem_of_getElem? (i := 154) rfl)) (hw _ (List.mem_of_getElem? (i := 155) rfl)) (hw _ (List.mem_of_getElem? (i := 159) rfl)) (by decide) own_pd1 rfl ((own_th1_ie l Z a0 hw hEL k mg _ g_k E_k U_k F_k_cause F_k_stackTrace F_k_suppressedExceptions F_k_backtrace F_k_detailMessage Us Ss hlt).payS (by simp) (hw _ (List.mem_of_getElem? (i := 159) rfl)) (hw _ (List.mem_of_getElem? (i := 158) rfl)) hEL (by decide) (by decide)) (Nat.le_of_ble_eq_true rfl) rfl rfl (by decide) (by decide) (by decide) (by decide) rfl (fun T h99 v_ ws_ X hgr_ q100 => ?_)
  obtain ⟨rfl, KP_, E1_, U1_, F1_, F2_, rfl⟩ := q100
  show Go p e below _ T (mkF m 5 #[.val (.ref k), .val (.ref mg)] [])
  replace X := X.sub (ws' := [k]) (by simp)
  exact s_ret X hEL (ws' := []) d29_5 (by decide) (by decide) (fun x q => by simp at q) ⟨rfl, KP_, E1_, U1_, F1_, F2_, rfl⟩
theorem d53_0 : decode prog_18_method_1_code 0 = .ok (.aload_n 0, 1) := by decide +kernel
theorem d53_1 : decode prog_18_method_1_code 1 = .ok (.new 1, 3) := by decide +kernel
theorem d53_4 : decode prog_18_method_1_code 4 = .ok (.dup, 1) := by decide +kernel
theorem d53_5 : decode prog_18_method_1_code 5 = .ok (.invokespecial 3, 3) := by decide +kernel
theorem d53_8 : decode prog_18_method_1_code 8 = .ok (.aload_n 1, 1) := by decide +kernel
theorem d53_9 : decode prog_18_method_1_code 9 = .ok (.invokevirtual 7, 3) := by decide +kernel
theorem d53_12 : decode prog_18_method_1_code 12 = .ok (.ldc 11, 2) := by decide +kernel
theorem d53_14 : decode prog_18_method_1_code 14 = .ok (.invokevirtual 7, 3) := by decide +kernel
theorem d53_17 : decode prog_18_method_1_code 17 = .ok (.iload_n 2, 1) := by decide +kernel
theorem d53_18 : decode prog_18_method_1_code 18 = .ok (.invokevirtual 13, 3) := by decide +kernel
theorem d53_21 : decode prog_18_method_1_code 21 = .ok (.ldc 16, 2) := by decide +kernel
theorem d53_23 : decode prog_18_method_1_code 23 = .ok (.invokevirtual 7, 3) := by decide +kernel
theorem d53_26 : decode prog_18_method_1_code 26 = .ok (.aload_n 3, 1) := by decide +kernel
theorem d53_27 : decode prog_18_method_1_code 27 = .ok (.invokevirtual 7, 3) := by decide +kernel
theorem d53_30 : decode prog_18_method_1_code 30 = .ok (.invokevirtual 18, 3) := by decide +kernel
theorem d53_33 : decode prog_18_method_1_code 33 = .ok (.invokespecial 22, 3) := by decide +kernel
theorem d53_36 : decode prog_18_method_1_code 36 = .ok (.aload_n 0, 1) := by decide +kernel
theorem d53_37 : decode prog_18_method_1_code 37 = .ok (.aload_n 1, 1) := by decide +kernel
theorem d53_38 : decode prog_18_method_1_code 38 = .ok (.putfield 27, 3) := by decide +kernel
theorem d53_41 : decode prog_18_method_1_code 41 = .ok (.aload_n 0, 1) := by decide +kernel
theorem d53_42 : decode prog_18_method_1_code 42 = .ok (.iload_n 2, 1) := by decide +kernel
theorem d53_43 : decode prog_18_method_1_code 43 = .ok (.putfield 33, 3) := by decide +kernel
theorem d53_46 : decode prog_18_method_1_code 46 = .ok (.aload_n 0, 1) := by decide +kernel
theorem d53_47 : decode prog_18_method_1_code 47 = .ok (.aload_n 3, 1) := by decide +kernel
theorem d53_48 : decode prog_18_method_1_code 48 = .ok (.putfield 37, 3) := by decide +kernel
theorem d53_51 : decode prog_18_method_1_code 51 = .ok (.return_, 1) := by decide +kernel
theorem ef_own_ix3 (m : MethodId) (k f0 : Addr) (ln : Int32) (r0 : Addr) : entryFrame m #[(.ref k), (.ref f0), (.int ln), (.ref r0)] 4 = mkF m 0 #[.val (.ref k), .val (.ref f0), .val (.int ln), .val (.ref r0)] [] := by first | (simp [entryFrame, mkF, argsToLocals, Value.category]; done) | rfl
set_option maxRecDepth 65536 in
set_option maxHeartbeats 40000000 in
theorem own_ix3 (l : Launch) (Z : State) (a0 : Array Value) (hw : ∀ d ∈ tables_1, d.before a0 Z = true) (hEL : EW Z a0 consts_1) (k f0 : Addr) (ln : Int32) (r0 : Addr) (h : Heap) {fs rs : List Int32} {G1 : Int32} {dO dT : Addr} {vO vT : List Value} {us ss : Addr} (g_k : Z.heap.size ≤ k) (E_k : Exa Z h k "com/example/vestwright/vestwright/input/InputException") (U_k : Unt h k) (F_k_cause : Fld Z h k "java/lang/Throwable" "cause" "Ljava/lang/Throwable;" .null) (F_k_stackTrace : Fld Z h k "java/lang/Throwable" "stackTrace" "[Ljava/lang/StackTraceElement;" .null) (F_k_suppressedExceptions : Fld Z h k "java/lang/Throwable" "suppressedExceptions" "Ljava/util/List;" .null) (F_k_backtrace : Fld Z h k "java/lang/Throwable" "backtrace" "Ljava/lang/Object;" .null) (F_k_detailMessage : Fld Z h k "java/lang/Throwable" "detailMessage" "Ljava/lang/String;" .null) (F_k_file : Fld Z h k "com/example/vestwright/vestwright/input/InputException" "file" "Ljava/lang/String;" .null) (F_k_line : Fld Z h k "com/example/vestwright/vestwright/input/InputException" "line" "I" (.int (0 : Int32))) (F_k_reason : Fld Z h k "com/example/vestwright/vestwright/input/InputException" "reason" "Ljava/lang/String;" .null) (S_f : Str Z h f0 fs) (S_r : Str Z h r0 rs) (hfs : Lat fs) (hrs : Lat rs) (hfl : fs.length ≤ 2) (hrl : rs.length ≤ 3) (Us : Sta Z Z.heap "java/lang/Throwable" "UNASSIGNED_STACK" "[Ljava/lang/StackTraceElement;" (.ref us)) (Ss : Sta Z Z.heap "java/lang/Throwable" "SUPPRESSED_SENTINEL" "Ljava/util/List;" (.ref ss)) (hlt : l.stackTraces = true) (dg : Digs Z dO dT vO vT) (O2 : Sta Z Z.heap "java/lang/String" "COMPACT_STRINGS" "Z" (.int G1)) (P5 : ¬ (G1 = (0 : Int32))) :
    Con l Z consts_1 True (⟨"com/example/vestwright/vestwright/input/InputException", "<init>", "(Ljava/lang/String;ILjava/lang/String;)V"⟩ : MethodName) prog_18_method_1_code 4 none ({ frames := 6, cells := 16, slots := 3200, locals := 92 } : Room) [k] #[(.ref k), (.ref f0), (.int ln), (.ref r0)] h (fun v h' ws' => ∃ mg, v = none ∧ Keep h h' [k] ∧ Exa Z h' k "com/example/vestwright/vestwright/input/InputException" ∧ Fld Z h' k "com/example/vestwright/vestwright/input/InputException" "file" "Ljava/lang/String;" (.ref f0) ∧ Fld Z h' k "com/example/vestwright/vestwright/input/InputException" "line" "I" (.int ln) ∧ Fld Z h' k "com/example/vestwright/vestwright/input/InputException" "reason" "Ljava/lang/String;" (.ref r0) ∧ Fld Z h' k "java/lang/Throwable" "detailMessage" "Ljava/lang/String;" (.ref mg) ∧ Exa Z h' mg "java/lang/String" ∧ ws' = []) := by
  refine Con.intro own_pn30 (fun p e s m below meth c T X => ?_)
  rw [ef_own_ix3 m k f0 ln r0]
  have R_ : Ext h h := ext_refl _
  have K_ : Keep h h [k] := Keep.refl _ _
  have S_f0 := S_f
  have S_r0 := S_r
  obtain ⟨tf, E_f0, F_f0_value, F_f0_coder, A_tf⟩ := S_f.latin (fun c hc => (hfs c hc).2)
  obtain ⟨tr, E_r0, F_r0_value, F_r0_coder, A_tr⟩ := S_r.latin (fun c hc => (hrs c hc).2)
  refine s_aloadN X (pc' := 1) d53_0 rfl rfl rfl ?_
  refine s_new X (pc' := 4) (k' := 1) (n' := 4) d53_1 (hw _ (List.mem_of_getElem? (i := 36) rfl)) (hw _ (List.mem_of_getElem? (i := 37) rfl)) (hw _ (List.mem_of_getElem? (i := 38) rfl)) (by decide) (by decide) (by decide) (by decide) rfl (fun T h102 b101 gb_b101 X' E103 E_b101 D_b101 U_b101 => ?_)
  have g_b101 : Z.heap.size ≤ b101 := by rw [gb_b101]; exact X.lt
  have ne_k_b101 : k ≠ b101 := Nat.ne_of_lt (by rw [gb_b101]; exact E_k.lt)
  have ne_f0_b101 : f0 ≠ b101 := Nat.ne_of_lt (by rw [gb_b101]; exact E_f0.lt)
  have ne_r0_b101 : r0 ≠ b101 := Nat.ne_of_lt (by rw [gb_b101]; exact E_r0.lt)
  have ne_tf_b101 : tf ≠ b101 := Nat.ne_of_lt (by rw [gb_b101]; exact A_tf.lt)
  have ne_tr_b101 : tr ≠ b101 := Nat.ne_of_lt (by rw [gb_b101]; exact A_tr.lt)
  have sz_R__b101 : h.size ≤ b101 := by rw [gb_b101]; exact R_.1
  have sz_K__b101 : h.size ≤ b101 := by rw [gb_b101]; exact K_.1
  replace E_k := E_k.ext E103
  replace E_f0 := E_f0.ext E103
  replace E_r0 := E_r0.ext E103
  replace F_k_cause := F_k_cause.ext E103
  replace F_k_stackTrace := F_k_stackTrace.ext E103
  replace F_k_suppressedExceptions := F_k_suppressedExceptions.ext E103
  replace F_k_backtrace := F_k_backtrace.ext E103
  replace F_k_detailMessage := F_k_detailMessage.ext E103
  replace F_k_file := F_k_file.ext E103
  replace F_k_line := F_k_line.ext E103
  replace F_k_reason := F_k_reason.ext E103
  replace F_f0_value := F_f0_value.ext E103
  replace F_f0_coder := F_f0_coder.ext E103
  replace F_r0_value := F_r0_value.ext E103
  replace F_r0_coder := F_r0_coder.ext E103
  replace A_tf := A_tf.ext E103
  replace A_tr := A_tr.ext E103
  replace R_ := ext_trans R_ E103
  replace K_ := K_.ext E103
  replace X := X'
  have F_b101_value : Fld Z h102 b101 "java/lang/AbstractStringBuilder" "value" "[B" .null := D_b101 (Or.inl (hw _ (List.mem_of_getElem? (i := 51) rfl))) (ty := (.array .byte)) (by decide)
  have F_b101_coder : Fld Z h102 b101 "java/lang/AbstractStringBuilder" "coder" "B" (.int (0 : Int32)) := D_b101 (Or.inl (hw _ (List.mem_of_getElem? (i := 53) rfl))) (ty := .byte) (by decide)
  have F_b101_count : Fld Z h102 b101 "java/lang/AbstractStringBuilder" "count" "I" (.int (0 : Int32)) := D_b101 (Or.inl (hw _ (List.mem_of_getElem? (i := 75) rfl))) (ty := .int) (by decide)
  refine s_dup X (pc' := 5) d53_4 rfl rfl ?_
  refine s_special X (pc' := 8) (W := 2) (as' := []) (S := [(.ref b101), (.ref k)]) (k' := 2) (n' := 20) d53_5 rfl (hw _ (List.mem_of_getElem? (i := 39) rfl)) (hw _ (List.mem_of_getElem? (i := 40) rfl)) (hw _ (List.mem_of_getElem? (i := 41) rfl)) (by decide) own_pd19 rfl ((sb_ini l Z a0 hw hEL b101 _ g_b101 E_b101 F_b101_value F_b101_coder F_b101_count O2 P5).payS (by simp) (hw _ (List.mem_of_getElem? (i := 41) rfl)) (hw _ (List.mem_of_getElem? (i := 38) rfl)) hEL (by decide) (by decide)) (Nat.le_of_ble_eq_true rfl) rfl rfl (by decide) (by decide) (by decide) (by decide) rfl (fun T h104 v_ ws_ X hgr_ q105 => ?_)
  obtain ⟨rfl, K1_, ⟨t0, hzt, Sb0, rfl⟩⟩ := q105
  show Go p e below _ T (mkF m 8 #[.val (.ref k), .val (.ref f0), .val (.int ln), .val (.ref r0)] [(.ref b101), (.ref k)])
  replace X := X.sub (ws' := [t0, b101, k]) (by simp)
  have ne_k_t0 : k ≠ t0 := Nat.ne_of_lt (Nat.lt_of_lt_of_le E_k.lt hzt)
  have ne_f0_t0 : f0 ≠ t0 := Nat.ne_of_lt (Nat.lt_of_lt_of_le E_f0.lt hzt)
  have ne_r0_t0 : r0 ≠ t0 := Nat.ne_of_lt (Nat.lt_of_lt_of_le E_r0.lt hzt)
  have ne_b101_t0 : b101 ≠ t0 := Nat.ne_of_lt (Nat.lt_of_lt_of_le E_b101.lt hzt)
  have ne_tf_t0 : tf ≠ t0 := Nat.ne_of_lt (Nat.lt_of_lt_of_le A_tf.lt hzt)
  have ne_tr_t0 : tr ≠ t0 := Nat.ne_of_lt (Nat.lt_of_lt_of_le A_tr.lt hzt)
  have g_t0 : Z.heap.size ≤ t0 := Nat.le_trans g_b101 (Nat.le_trans (Nat.le_of_lt E_b101.lt) hzt)
  have sz_R__t0 : h.size ≤ t0 := Nat.le_trans R_.1 hzt
  have sz_K__t0 := sz_R__t0
  replace F_k_cause := F_k_cause.keep K1_ (ninS ne_k_b101 nin0)
  replace F_k_stackTrace := F_k_stackTrace.keep K1_ (ninS ne_k_b101 nin0)
  replace F_k_suppressedExceptions := F_k_suppressedExceptions.keep K1_ (ninS ne_k_b101 nin0)
  replace F_k_backtrace := F_k_backtrace.keep K1_ (ninS ne_k_b101 nin0)
  replace F_k_detailMessage := F_k_detailMessage.keep K1_ (ninS ne_k_b101 nin0)
  replace F_k_file := F_k_file.keep K1_ (ninS ne_k_b101 nin0)
  replace F_k_line := F_k_line.keep K1_ (ninS ne_k_b101 nin0)
  replace F_k_reason := F_k_reason.keep K1_ (ninS ne_k_b101 nin0)
  replace F_f0_value := F_f0_value.keep K1_ (ninS ne_f0_b101 nin0)
  replace F_f0_coder := F_f0_coder.keep K1_ (ninS ne_f0_b101 nin0)
  replace F_r0_value := F_r0_value.keep K1_ (ninS ne_r0_b101 nin0)
  replace F_r0_coder := F_r0_coder.keep K1_ (ninS ne_r0_b101 nin0)
  replace A_tf := A_tf.keep K1_ (ninS ne_tf_b101 nin0)
  replace A_tr := A_tr.keep K1_ (ninS ne_tr_b101 nin0)
  replace E_k := E_k.keep K1_
  replace E_f0 := E_f0.keep K1_
  replace E_r0 := E_r0.keep K1_
  replace E_b101 := E_b101.keep K1_
  replace R_ := ext_keep R_ K1_ (allS sz_R__b101 all0)
  replace K_ := K_.trans K1_ (allS (Or.inr sz_K__b101) all0)
  have c0 : ([] : List Int32).length + (List.replicate 16 (Value.int (0 : Int32))).length = 16 := rfl
  have c0x := c0
  refine s_aloadN X (pc' := 9) d53_8 rfl rfl rfl ?_
  refine s_virtual X (pc' := 12) (W := 1) (as' := [(.ref f0)]) (S := [(.ref k)]) (k' := 3) (n' := 60) d53_9 (hw _ (List.mem_of_getElem? (i := 54) rfl)) (hw _ (List.mem_of_getElem? (i := 55) rfl)) (hw _ (List.mem_of_getElem? (i := 57) rfl)) (hw _ (List.mem_of_getElem? (i := 56) rfl)) (nface (hw _ (List.mem_of_getElem? (i := 57) rfl))) (by decide) own_pd20 rfl E_b101 ((sb_sapp l Z a0 hw hEL b101 f0 _ Sb0 E_f0 F_f0_value F_f0_coder A_tf hfs (by omega) (by rw [c0x]; decide) (by rw [c0x]; decide) (by first | decide | omega) (by rw [c0x, capN]; simp only [List.length_nil, List.length_append, List.length_cons] at *; split <;> omega) g_b101 g_t0 ne_tf_t0 O2 P5).payS (by simp) (hw _ (List.mem_of_getElem? (i := 58) rfl)) (hw _ (List.mem_of_getElem? (i := 38) rfl)) hEL (by decide) (by decide)) (Nat.le_of_ble_eq_true rfl) rfl rfl (by decide) (by decide) (by decide) (by decide) rfl (fun T h106 v_ ws_ X hgr_ q107 => ?_)
  obtain ⟨t1, r1, rfl, Ka1_, hT1, Sb1, c1, rfl⟩ := q107
  show Go p e below _ T (mkF m 12 #[.val (.ref k), .val (.ref f0), .val (.int ln), .val (.ref r0)] [(.ref b101), (.ref k)])
  replace X := X.sub (ws' := [t1, b101, k]) (by simp)
  have ne_k_t1 : k ≠ t1 := hT1.elim (fun q => by rw [q]; exact ne_k_t0) (fun q => Nat.ne_of_lt (Nat.lt_of_lt_of_le E_k.lt q))
  have ne_f0_t1 : f0 ≠ t1 := hT1.elim (fun q => by rw [q]; exact ne_f0_t0) (fun q => Nat.ne_of_lt (Nat.lt_of_lt_of_le E_f0.lt q))
  have ne_r0_t1 : r0 ≠ t1 := hT1.elim (fun q => by rw [q]; exact ne_r0_t0) (fun q => Nat.ne_of_lt (Nat.lt_of_lt_of_le E_r0.lt q))
  have ne_b101_t1 : b101 ≠ t1 := hT1.elim (fun q => by rw [q]; exact ne_b101_t0) (fun q => Nat.ne_of_lt (Nat.lt_of_lt_of_le E_b101.lt q))
  have ne_tf_t1 : tf ≠ t1 := hT1.elim (fun q => by rw [q]; exact ne_tf_t0) (fun q => Nat.ne_of_lt (Nat.lt_of_lt_of_le A_tf.lt q))
  have ne_tr_t1 : tr ≠ t1 := hT1.elim (fun q => by rw [q]; exact ne_tr_t0) (fun q => Nat.ne_of_lt (Nat.lt_of_lt_of_le A_tr.lt q))
  have g_t1 : Z.heap.size ≤ t1 := hT1.elim (fun q => by rw [q]; exact g_t0) (fun q => Nat.le_trans g_b101 (Nat.le_trans (Nat.le_of_lt E_b101.lt) q))
  have sz_R__t1 : h.size ≤ t1 := hT1.elim (fun q => by rw [q]; exact sz_R__t0) (fun q => Nat.le_trans R_.1 q)
  have sz_K__t1 := sz_R__t1
  replace F_k_cause := F_k_cause.keep Ka1_ (ninS ne_k_b101 (ninS ne_k_t0 nin0))
  replace F_k_stackTrace := F_k_stackTrace.keep Ka1_ (ninS ne_k_b101 (ninS ne_k_t0 nin0))
  replace F_k_suppressedExceptions := F_k_suppressedExceptions.keep Ka1_ (ninS ne_k_b101 (ninS ne_k_t0 nin0))
  replace F_k_backtrace := F_k_backtrace.keep Ka1_ (ninS ne_k_b101 (ninS ne_k_t0 nin0))
  replace F_k_detailMessage := F_k_detailMessage.keep Ka1_ (ninS ne_k_b101 (ninS ne_k_t0 nin0))
  replace F_k_file := F_k_file.keep Ka1_ (ninS ne_k_b101 (ninS ne_k_t0 nin0))
  replace F_k_line := F_k_line.keep Ka1_ (ninS ne_k_b101 (ninS ne_k_t0 nin0))
  replace F_k_reason := F_k_reason.keep Ka1_ (ninS ne_k_b101 (ninS ne_k_t0 nin0))
  replace F_f0_value := F_f0_value.keep Ka1_ (ninS ne_f0_b101 (ninS ne_f0_t0 nin0))
  replace F_f0_coder := F_f0_coder.keep Ka1_ (ninS ne_f0_b101 (ninS ne_f0_t0 nin0))
  replace F_r0_value := F_r0_value.keep Ka1_ (ninS ne_r0_b101 (ninS ne_r0_t0 nin0))
  replace F_r0_coder := F_r0_coder.keep Ka1_ (ninS ne_r0_b101 (ninS ne_r0_t0 nin0))
  replace A_tf := A_tf.keep Ka1_ (ninS ne_tf_b101 (ninS ne_tf_t0 nin0))
  replace A_tr := A_tr.keep Ka1_ (ninS ne_tr_b101 (ninS ne_tr_t0 nin0))
  replace E_k := E_k.keep Ka1_
  replace E_f0 := E_f0.keep Ka1_
  replace E_r0 := E_r0.keep Ka1_
  replace E_b101 := E_b101.keep Ka1_
  replace R_ := ext_keep R_ Ka1_ (allS sz_R__b101 (allS sz_R__t0 all0))
  replace K_ := K_.trans Ka1_ (allS (Or.inr sz_K__b101) (allS (Or.inr sz_K__t0) all0))
  have d1 : (([] : List Int32) ++ fs).length = fs.length := by simp
  have c1x : (([] : List Int32) ++ fs).length + r1.length = 16 := by
    rw [c0x, capN, if_pos (by simp only [List.length_nil]; omega)] at c1
    rw [d1]; simp only [List.length_nil] at c1; omega
  obtain ⟨e1, ge1⟩ : ∃ z, z = ([] : List Int32) ++ fs := ⟨_, rfl⟩
  rw [← ge1] at Sb1 c1x d1
  have l1 : Lat e1 := by rw [ge1]; exact Lat.app (fun c hc => nomatch hc) hfs
  refine s_ldcS X (pc' := 14) (k' := 5) (n' := 68) (nn := 4) (vs := [(.int (58 : Int32))]) (z := (1 : Int32)) hEL d53_12 (hw _ (List.mem_of_getElem? (i := 341) rfl)) (fun d hd => hw d ((by decide +kernel : ∀ d ∈ Bundle.stringAtoms, d ∈ tables_1) d hd)) (by simp [consts_1]) (by decide) (by decide) (by decide) (by decide) (by decide) (by decide) (by decide) (by decide) (by decide) rfl (fun T h108 a1 b1 kc_b1 X' E109 E_a1 F_a1_coder F_a1_value V_b1 nw_ => ?_)
  replace E_k := E_k.ext E109
  replace E_f0 := E_f0.ext E109
  replace E_r0 := E_r0.ext E109
  replace E_b101 := E_b101.ext E109
  replace F_k_cause := F_k_cause.ext E109
  replace F_k_stackTrace := F_k_stackTrace.ext E109
  replace F_k_suppressedExceptions := F_k_suppressedExceptions.ext E109
  replace F_k_backtrace := F_k_backtrace.ext E109
  replace F_k_detailMessage := F_k_detailMessage.ext E109
  replace F_k_file := F_k_file.ext E109
  replace F_k_line := F_k_line.ext E109
  replace F_k_reason := F_k_reason.ext E109
  replace F_f0_value := F_f0_value.ext E109
  replace F_f0_coder := F_f0_coder.ext E109
  replace F_r0_value := F_r0_value.ext E109
  replace F_r0_coder := F_r0_coder.ext E109
  replace A_tf := A_tf.ext E109
  replace A_tr := A_tr.ext E109
  replace R_ := ext_trans R_ E109
  replace K_ := K_.ext E109
  replace X := X'
  have ne_t1_a1 : t1 ≠ a1 := (nw_ t1 (by simp)).1
  have ne_t1_b1 : t1 ≠ b1 := (nw_ t1 (by simp)).2
  have ne_b101_a1 : b101 ≠ a1 := (nw_ b101 (by simp)).1
  have ne_b101_b1 : b101 ≠ b1 := (nw_ b101 (by simp)).2
  have ne_k_a1 : k ≠ a1 := (nw_ k (by simp)).1
  have ne_k_b1 : k ≠ b1 := (nw_ k (by simp)).2
  have A_b1 : Ary Z h108 b1 .byte (bys [58]) := Ary.of_arv V_b1 rfl (by decide)
  replace Sb1 := Sb1.ext E109
  have ne_a1_t1 := ne_t1_a1.symm
  have ne_b1_t1 := ne_t1_b1.symm
  have ne_a1_b101 := ne_b101_a1.symm
  have ne_b1_b101 := ne_b101_b1.symm
  have ne_a1_k := ne_k_a1.symm
  have ne_b1_k := ne_k_b1.symm
  refine s_virtual X (pc' := 17) (W := 1) (as' := [(.ref a1)]) (S := [(.ref k)]) (k' := 6) (n' := 108) d53_14 (hw _ (List.mem_of_getElem? (i := 54) rfl)) (hw _ (List.mem_of_getElem? (i := 55) rfl)) (hw _ (List.mem_of_getElem? (i := 57) rfl)) (hw _ (List.mem_of_getElem? (i := 56) rfl)) (nface (hw _ (List.mem_of_getElem? (i := 57) rfl))) (by decide) own_pd20 rfl E_b101 ((sb_sapp l Z a0 hw hEL b101 a1 _ Sb1 E_a1 F_a1_value F_a1_coder A_b1 (show Lat [58] from (by decide : ∀ c ∈ ([58] : List Int32), ¬ c < 0 ∧ ¬ (255 : Int32) < c)) (by decide) (by rw [c1x]; decide) (by rw [c1x]; decide) (by first | decide | omega) (by rw [c1x, capN]; simp only [List.length_nil, List.length_append, List.length_cons] at *; split <;> omega) g_b101 g_t1 ne_b1_t1 O2 P5).payS (by simp) (hw _ (List.mem_of_getElem? (i := 58) rfl)) (hw _ (List.mem_of_getElem? (i := 38) rfl)) hEL (by decide) (by decide)) (Nat.le_of_ble_eq_true rfl) rfl rfl (by decide) (by decide) (by decide) (by decide) rfl (fun T h110 v_ ws_ X hgr_ q111 => ?_)
  obtain ⟨t2, r2, rfl, Ka2_, hT2, Sb2, c2, rfl⟩ := q111
  show Go p e below _ T (mkF m 17 #[.val (.ref k), .val (.ref f0), .val (.int ln), .val (.ref r0)] [(.ref b101), (.ref k)])
  replace X := X.sub (ws' := [t2, b101, k]) (by simp)
  have ne_k_t2 : k ≠ t2 := hT2.elim (fun q => by rw [q]; exact ne_k_t1) (fun q => Nat.ne_of_lt (Nat.lt_of_lt_of_le E_k.lt q))
  have ne_f0_t2 : f0 ≠ t2 := hT2.elim (fun q => by rw [q]; exact ne_f0_t1) (fun q => Nat.ne_of_lt (Nat.lt_of_lt_of_le E_f0.lt q))
  have ne_r0_t2 : r0 ≠ t2 := hT2.elim (fun q => by rw [q]; exact ne_r0_t1) (fun q => Nat.ne_of_lt (Nat.lt_of_lt_of_le E_r0.lt q))
  have ne_b101_t2 : b101 ≠ t2 := hT2.elim (fun q => by rw [q]; exact ne_b101_t1) (fun q => Nat.ne_of_lt (Nat.lt_of_lt_of_le E_b101.lt q))
  have ne_a1_t2 : a1 ≠ t2 := hT2.elim (fun q => by rw [q]; exact ne_a1_t1) (fun q => Nat.ne_of_lt (Nat.lt_of_lt_of_le E_a1.lt q))
  have ne_tf_t2 : tf ≠ t2 := hT2.elim (fun q => by rw [q]; exact ne_tf_t1) (fun q => Nat.ne_of_lt (Nat.lt_of_lt_of_le A_tf.lt q))
  have ne_tr_t2 : tr ≠ t2 := hT2.elim (fun q => by rw [q]; exact ne_tr_t1) (fun q => Nat.ne_of_lt (Nat.lt_of_lt_of_le A_tr.lt q))
  have ne_b1_t2 : b1 ≠ t2 := hT2.elim (fun q => by rw [q]; exact ne_b1_t1) (fun q => Nat.ne_of_lt (Nat.lt_of_lt_of_le A_b1.lt q))
  have g_t2 : Z.heap.size ≤ t2 := hT2.elim (fun q => by rw [q]; exact g_t1) (fun q => Nat.le_trans g_b101 (Nat.le_trans (Nat.le_of_lt E_b101.lt) q))
  have sz_R__t2 : h.size ≤ t2 := hT2.elim (fun q => by rw [q]; exact sz_R__t1) (fun q => Nat.le_trans R_.1 q)
  have sz_K__t2 := sz_R__t2
  replace F_k_cause := F_k_cause.keep Ka2_ (ninS ne_k_b101 (ninS ne_k_t1 nin0))
  replace F_k_stackTrace := F_k_stackTrace.keep Ka2_ (ninS ne_k_b101 (ninS ne_k_t1 nin0))
  replace F_k_suppressedExceptions := F_k_suppressedExceptions.keep Ka2_ (ninS ne_k_b101 (ninS ne_k_t1 nin0))
  replace F_k_backtrace := F_k_backtrace.keep Ka2_ (ninS ne_k_b101 (ninS ne_k_t1 nin0))
  replace F_k_detailMessage := F_k_detailMessage.keep Ka2_ (ninS ne_k_b101 (ninS ne_k_t1 nin0))
  replace F_k_file := F_k_file.keep Ka2_ (ninS ne_k_b101 (ninS ne_k_t1 nin0))
  replace F_k_line := F_k_line.keep Ka2_ (ninS ne_k_b101 (ninS ne_k_t1 nin0))
  replace F_k_reason := F_k_reason.keep Ka2_ (ninS ne_k_b101 (ninS ne_k_t1 nin0))
  replace F_f0_value := F_f0_value.keep Ka2_ (ninS ne_f0_b101 (ninS ne_f0_t1 nin0))
  replace F_f0_coder := F_f0_coder.keep Ka2_ (ninS ne_f0_b101 (ninS ne_f0_t1 nin0))
  replace F_r0_value := F_r0_value.keep Ka2_ (ninS ne_r0_b101 (ninS ne_r0_t1 nin0))
  replace F_r0_coder := F_r0_coder.keep Ka2_ (ninS ne_r0_b101 (ninS ne_r0_t1 nin0))
  replace F_a1_coder := F_a1_coder.keep Ka2_ (ninS ne_a1_b101 (ninS ne_a1_t1 nin0))
  replace F_a1_value := F_a1_value.keep Ka2_ (ninS ne_a1_b101 (ninS ne_a1_t1 nin0))
  replace A_tf := A_tf.keep Ka2_ (ninS ne_tf_b101 (ninS ne_tf_t1 nin0))
  replace A_tr := A_tr.keep Ka2_ (ninS ne_tr_b101 (ninS ne_tr_t1 nin0))
  replace A_b1 := A_b1.keep Ka2_ (ninS ne_b1_b101 (ninS ne_b1_t1 nin0))
  replace E_k := E_k.keep Ka2_
  replace E_f0 := E_f0.keep Ka2_
  replace E_r0 := E_r0.keep Ka2_
  replace E_b101 := E_b101.keep Ka2_
  replace E_a1 := E_a1.keep Ka2_
  replace R_ := ext_keep R_ Ka2_ (allS sz_R__b101 (allS sz_R__t1 all0))
  replace K_ := K_.trans Ka2_ (allS (Or.inr sz_K__b101) (allS (Or.inr sz_K__t1) all0))
  have d2 : (e1 ++ [58]).length = fs.length + 1 := by rw [List.length_append, d1]; rfl
  have c2x : (e1 ++ [58]).length + r2.length = 16 := by
    have q : ([58] : List Int32).length = 1 := rfl
    rw [c1x, capN, if_pos (by rw [d1, q]; omega)] at c2
    rw [d2]; rw [d1, q] at c2; omega
  obtain ⟨e2, ge2⟩ : ∃ z, z = e1 ++ [58] := ⟨_, rfl⟩
  rw [← ge2] at Sb2 c2x d2
  have l2 : Lat e2 := by rw [ge2]; exact l1.app (show Lat [58] from (by decide : ∀ c ∈ ([58] : List Int32), ¬ c < 0 ∧ ¬ (255 : Int32) < c))
  refine s_iloadN X (pc' := 18) d53_17 rfl rfl ?_
  refine s_virtual X (pc' := 21) (W := 1) (as' := [(.int ln)]) (S := [(.ref k)]) (k' := 7) (n' := 148) d53_18 (hw _ (List.mem_of_getElem? (i := 342) rfl)) (hw _ (List.mem_of_getElem? (i := 343) rfl)) (hw _ (List.mem_of_getElem? (i := 345) rfl)) (hw _ (List.mem_of_getElem? (i := 344) rfl)) (nface (hw _ (List.mem_of_getElem? (i := 345) rfl))) (by decide) own_pd21 rfl E_b101 ((sb_si l Z a0 hw hEL b101 ln _ Sb2 (by rw [c2x]; decide) (by rw [c2x]; decide) (fun sz hsz => by rw [c2x, capN, d2]; split <;> omega) g_b101 g_t2 dg O2 P5).payS (by simp) (hw _ (List.mem_of_getElem? (i := 346) rfl)) (hw _ (List.mem_of_getElem? (i := 38) rfl)) hEL (by decide) (by decide)) (Nat.le_of_ble_eq_true rfl) rfl rfl (by decide) (by decide) (by decide) (by decide) rfl (fun T h112 v_ ws_ X hgr_ q113 => ?_)
  obtain ⟨t3, e3, r3, sz, rfl, Ka3_, hT3, Sb3, l3, z1, z11, d3, c3, rfl⟩ := q113
  show Go p e below _ T (mkF m 21 #[.val (.ref k), .val (.ref f0), .val (.int ln), .val (.ref r0)] [(.ref b101), (.ref k)])
  replace X := X.sub (ws' := [t3, b101, k]) (by simp)
  have ne_k_t3 : k ≠ t3 := hT3.elim (fun q => by rw [q]; exact ne_k_t2) (fun q => Nat.ne_of_lt (Nat.lt_of_lt_of_le E_k.lt q))
  have ne_f0_t3 : f0 ≠ t3 := hT3.elim (fun q => by rw [q]; exact ne_f0_t2) (fun q => Nat.ne_of_lt (Nat.lt_of_lt_of_le E_f0.lt q))
  have ne_r0_t3 : r0 ≠ t3 := hT3.elim (fun q => by rw [q]; exact ne_r0_t2) (fun q => Nat.ne_of_lt (Nat.lt_of_lt_of_le E_r0.lt q))
  have ne_b101_t3 : b101 ≠ t3 := hT3.elim (fun q => by rw [q]; exact ne_b101_t2) (fun q => Nat.ne_of_lt (Nat.lt_of_lt_of_le E_b101.lt q))
  have ne_a1_t3 : a1 ≠ t3 := hT3.elim (fun q => by rw [q]; exact ne_a1_t2) (fun q => Nat.ne_of_lt (Nat.lt_of_lt_of_le E_a1.lt q))
  have ne_tf_t3 : tf ≠ t3 := hT3.elim (fun q => by rw [q]; exact ne_tf_t2) (fun q => Nat.ne_of_lt (Nat.lt_of_lt_of_le A_tf.lt q))
  have ne_tr_t3 : tr ≠ t3 := hT3.elim (fun q => by rw [q]; exact ne_tr_t2) (fun q => Nat.ne_of_lt (Nat.lt_of_lt_of_le A_tr.lt q))
  have ne_b1_t3 : b1 ≠ t3 := hT3.elim (fun q => by rw [q]; exact ne_b1_t2) (fun q => Nat.ne_of_lt (Nat.lt_of_lt_of_le A_b1.lt q))
  have g_t3 : Z.heap.size ≤ t3 := hT3.elim (fun q => by rw [q]; exact g_t2) (fun q => Nat.le_trans g_b101 (Nat.le_trans (Nat.le_of_lt E_b101.lt) q))
  have sz_R__t3 : h.size ≤ t3 := hT3.elim (fun q => by rw [q]; exact sz_R__t2) (fun q => Nat.le_trans R_.1 q)
  have sz_K__t3 := sz_R__t3
  replace F_k_cause := F_k_cause.keep Ka3_ (ninS ne_k_b101 (ninS ne_k_t2 nin0))
  replace F_k_stackTrace := F_k_stackTrace.keep Ka3_ (ninS ne_k_b101 (ninS ne_k_t2 nin0))
  replace F_k_suppressedExceptions := F_k_suppressedExceptions.keep Ka3_ (ninS ne_k_b101 (ninS ne_k_t2 nin0))
  replace F_k_backtrace := F_k_backtrace.keep Ka3_ (ninS ne_k_b101 (ninS ne_k_t2 nin0))
  replace F_k_detailMessage := F_k_detailMessage.keep Ka3_ (ninS ne_k_b101 (ninS ne_k_t2 nin0))
  replace F_k_file := F_k_file.keep Ka3_ (ninS ne_k_b101 (ninS ne_k_t2 nin0))
  replace F_k_line := F_k_line.keep Ka3_ (ninS ne_k_b101 (ninS ne_k_t2 nin0))
  replace F_k_reason := F_k_reason.keep Ka3_ (ninS ne_k_b101 (ninS ne_k_t2 nin0))
  replace F_f0_value := F_f0_value.keep Ka3_ (ninS ne_f0_b101 (ninS ne_f0_t2 nin0))
  replace F_f0_coder := F_f0_coder.keep Ka3_ (ninS ne_f0_b101 (ninS ne_f0_t2 nin0))
  replace F_r0_value := F_r0_value.keep Ka3_ (ninS ne_r0_b101 (ninS ne_r0_t2 nin0))
  replace F_r0_coder := F_r0_coder.keep Ka3_ (ninS ne_r0_b101 (ninS ne_r0_t2 nin0))
  replace F_a1_coder := F_a1_coder.keep Ka3_ (ninS ne_a1_b101 (ninS ne_a1_t2 nin0))
  replace F_a1_value := F_a1_value.keep Ka3_ (ninS ne_a1_b101 (ninS ne_a1_t2 nin0))
  replace A_tf := A_tf.keep Ka3_ (ninS ne_tf_b101 (ninS ne_tf_t2 nin0))
  replace A_tr := A_tr.keep Ka3_ (ninS ne_tr_b101 (ninS ne_tr_t2 nin0))
  replace A_b1 := A_b1.keep Ka3_ (ninS ne_b1_b101 (ninS ne_b1_t2 nin0))
  replace E_k := E_k.keep Ka3_
  replace E_f0 := E_f0.keep Ka3_
  replace E_r0 := E_r0.keep Ka3_
  replace E_b101 := E_b101.keep Ka3_
  replace E_a1 := E_a1.keep Ka3_
  replace R_ := ext_keep R_ Ka3_ (allS sz_R__b101 (allS sz_R__t2 all0))
  replace K_ := K_.trans Ka3_ (allS (Or.inr sz_K__b101) (allS (Or.inr sz_K__t2) all0))
  have c3x : e3.length + r3.length = 16 := by rw [c3, c2x, capN, if_pos (by rw [d2]; omega)]
  rw [d2] at d3
  refine s_ldcS X (pc' := 23) (k' := 9) (n' := 160) (nn := 8) (vs := [(.int (58 : Int32)), (.int (32 : Int32))]) (z := (2 : Int32)) hEL d53_21 (hw _ (List.mem_of_getElem? (i := 101) rfl)) (fun d hd => hw d ((by decide +kernel : ∀ d ∈ Bundle.stringAtoms, d ∈ tables_1) d hd)) (by simp [consts_1]) (by decide) (by decide) (by decide) (by decide) (by decide) (by decide) (by decide) (by decide) (by decide) rfl (fun T h114 a2 b2 kc_b2 X' E115 E_a2 F_a2_coder F_a2_value V_b2 nw_ => ?_)
  replace E_k := E_k.ext E115
  replace E_f0 := E_f0.ext E115
  replace E_r0 := E_r0.ext E115
  replace E_b101 := E_b101.ext E115
  replace E_a1 := E_a1.ext E115
  replace F_k_cause := F_k_cause.ext E115
  replace F_k_stackTrace := F_k_stackTrace.ext E115
  replace F_k_suppressedExceptions := F_k_suppressedExceptions.ext E115
  replace F_k_backtrace := F_k_backtrace.ext E115
  replace F_k_detailMessage := F_k_detailMessage.ext E115
  replace F_k_file := F_k_file.ext E115
  replace F_k_line := F_k_line.ext E115
  replace F_k_reason := F_k_reason.ext E115
  replace F_f0_value := F_f0_value.ext E115
  replace F_f0_coder := F_f0_coder.ext E115
  replace F_r0_value := F_r0_value.ext E115
  replace F_r0_coder := F_r0_coder.ext E115
  replace F_a1_coder := F_a1_coder.ext E115
  replace F_a1_value := F_a1_value.ext E115
  replace A_tf := A_tf.ext E115
  replace A_tr := A_tr.ext E115
  replace A_b1 := A_b1.ext E115
  replace R_ := ext_trans R_ E115
  replace K_ := K_.ext E115
  replace X := X'
  have ne_t3_a2 : t3 ≠ a2 := (nw_ t3 (by simp)).1
  have ne_t3_b2 : t3 ≠ b2 := (nw_ t3 (by simp)).2
  have ne_b101_a2 : b101 ≠ a2 := (nw_ b101 (by simp)).1
  have ne_b101_b2 : b101 ≠ b2 := (nw_ b101 (by simp)).2
  have ne_k_a2 : k ≠ a2 := (nw_ k (by simp)).1
  have ne_k_b2 : k ≠ b2 := (nw_ k (by simp)).2
  have A_b2 : Ary Z h114 b2 .byte (bys [58, 32]) := Ary.of_arv V_b2 rfl (by decide)
  replace Sb3 := Sb3.ext E115
  have ne_a2_t3 := ne_t3_a2.symm
  have ne_b2_t3 := ne_t3_b2.symm
  have ne_a2_b101 := ne_b101_a2.symm
  have ne_b2_b101 := ne_b101_b2.symm
  have ne_a2_k := ne_k_a2.symm
  have ne_b2_k := ne_k_b2.symm
  refine s_virtual X (pc' := 26) (W := 1) (as' := [(.ref a2)]) (S := [(.ref k)]) (k' := 10) (n' := 200) d53_23 (hw _ (List.mem_of_getElem? (i := 54) rfl)) (hw _ (List.mem_of_getElem? (i := 55) rfl)) (hw _ (List.mem_of_getElem? (i := 57) rfl)) (hw _ (List.mem_of_getElem? (i := 56) rfl)) (nface (hw _ (List.mem_of_getElem? (i := 57) rfl))) (by decide) own_pd20 rfl E_b101 ((sb_sapp l Z a0 hw hEL b101 a2 _ Sb3 E_a2 F_a2_value F_a2_coder A_b2 (show Lat [58, 32] from (by decide : ∀ c ∈ ([58, 32] : List Int32), ¬ c < 0 ∧ ¬ (255 : Int32) < c)) (by decide) (by rw [c3x]; decide) (by rw [c3x]; decide) (by first | decide | omega) (by rw [c3x, capN]; simp only [List.length_nil, List.length_append, List.length_cons] at *; split <;> omega) g_b101 g_t3 ne_b2_t3 O2 P5).payS (by simp) (hw _ (List.mem_of_getElem? (i := 58) rfl)) (hw _ (List.mem_of_getElem? (i := 38) rfl)) hEL (by decide) (by decide)) (Nat.le_of_ble_eq_true rfl) rfl rfl (by decide) (by decide) (by decide) (by decide) rfl (fun T h116 v_ ws_ X hgr_ q117 => ?_)
  obtain ⟨t4, r4, rfl, Ka4_, hT4, Sb4, c4, rfl⟩ := q117
  show Go p e below _ T (mkF m 26 #[.val (.ref k), .val (.ref f0), .val (.int ln), .val (.ref r0)] [(.ref b101), (.ref k)])
  replace X := X.sub (ws' := [t4, b101, k]) (by simp)
  have ne_k_t4 : k ≠ t4 := hT4.elim (fun q => by rw [q]; exact ne_k_t3) (fun q => Nat.ne_of_lt (Nat.lt_of_lt_of_le E_k.lt q))
  have ne_f0_t4 : f0 ≠ t4 := hT4.elim (fun q => by rw [q]; exact ne_f0_t3) (fun q => Nat.ne_of_lt (Nat.lt_of_lt_of_le E_f0.lt q))
  have ne_r0_t4 : r0 ≠ t4 := hT4.elim (fun q => by rw [q]; exact ne_r0_t3) (fun q => Nat.ne_of_lt (Nat.lt_of_lt_of_le E_r0.lt q))
  have ne_b101_t4 : b101 ≠ t4 := hT4.elim (fun q => by rw [q]; exact ne_b101_t3) (fun q => Nat.ne_of_lt (Nat.lt_of_lt_of_le E_b101.lt q))
  have ne_a1_t4 : a1 ≠ t4 := hT4.elim (fun q => by rw [q]; exact ne_a1_t3) (fun q => Nat.ne_of_lt (Nat.lt_of_lt_of_le E_a1.lt q))
  have ne_a2_t4 : a2 ≠ t4 := hT4.elim (fun q => by rw [q]; exact ne_a2_t3) (fun q => Nat.ne_of_lt (Nat.lt_of_lt_of_le E_a2.lt q))
  have ne_tf_t4 : tf ≠ t4 := hT4.elim (fun q => by rw [q]; exact ne_tf_t3) (fun q => Nat.ne_of_lt (Nat.lt_of_lt_of_le A_tf.lt q))
  have ne_tr_t4 : tr ≠ t4 := hT4.elim (fun q => by rw [q]; exact ne_tr_t3) (fun q => Nat.ne_of_lt (Nat.lt_of_lt_of_le A_tr.lt q))
  have ne_b1_t4 : b1 ≠ t4 := hT4.elim (fun q => by rw [q]; exact ne_b1_t3) (fun q => Nat.ne_of_lt (Nat.lt_of_lt_of_le A_b1.lt q))
  have ne_b2_t4 : b2 ≠ t4 := hT4.elim (fun q => by rw [q]; exact ne_b2_t3) (fun q => Nat.ne_of_lt (Nat.lt_of_lt_of_le A_b2.lt q))
  have g_t4 : Z.heap.size ≤ t4 := hT4.elim (fun q => by rw [q]; exact g_t3) (fun q => Nat.le_trans g_b101 (Nat.le_trans (Nat.le_of_lt E_b101.lt) q))
  have sz_R__t4 : h.size ≤ t4 := hT4.elim (fun q => by rw [q]; exact sz_R__t3) (fun q => Nat.le_trans R_.1 q)
  have sz_K__t4 := sz_R__t4
  replace F_k_cause := F_k_cause.keep Ka4_ (ninS ne_k_b101 (ninS ne_k_t3 nin0))
  replace F_k_stackTrace := F_k_stackTrace.keep Ka4_ (ninS ne_k_b101 (ninS ne_k_t3 nin0))
  replace F_k_suppressedExceptions := F_k_suppressedExceptions.keep Ka4_ (ninS ne_k_b101 (ninS ne_k_t3 nin0))
  replace F_k_backtrace := F_k_backtrace.keep Ka4_ (ninS ne_k_b101 (ninS ne_k_t3 nin0))
  replace F_k_detailMessage := F_k_detailMessage.keep Ka4_ (ninS ne_k_b101 (ninS ne_k_t3 nin0))
  replace F_k_file := F_k_file.keep Ka4_ (ninS ne_k_b101 (ninS ne_k_t3 nin0))
  replace F_k_line := F_k_line.keep Ka4_ (ninS ne_k_b101 (ninS ne_k_t3 nin0))
  replace F_k_reason := F_k_reason.keep Ka4_ (ninS ne_k_b101 (ninS ne_k_t3 nin0))
  replace F_f0_value := F_f0_value.keep Ka4_ (ninS ne_f0_b101 (ninS ne_f0_t3 nin0))
  replace F_f0_coder := F_f0_coder.keep Ka4_ (ninS ne_f0_b101 (ninS ne_f0_t3 nin0))
  replace F_r0_value := F_r0_value.keep Ka4_ (ninS ne_r0_b101 (ninS ne_r0_t3 nin0))
  replace F_r0_coder := F_r0_coder.keep Ka4_ (ninS ne_r0_b101 (ninS ne_r0_t3 nin0))
  replace F_a1_coder := F_a1_coder.keep Ka4_ (ninS ne_a1_b101 (ninS ne_a1_t3 nin0))
  replace F_a1_value := F_a1_value.keep Ka4_ (ninS ne_a1_b101 (ninS ne_a1_t3 nin0))
  replace F_a2_coder := F_a2_coder.keep Ka4_ (ninS ne_a2_b101 (ninS ne_a2_t3 nin0))
  replace F_a2_value := F_a2_value.keep Ka4_ (ninS ne_a2_b101 (ninS ne_a2_t3 nin0))
  replace A_tf := A_tf.keep Ka4_ (ninS ne_tf_b101 (ninS ne_tf_t3 nin0))
  replace A_tr := A_tr.keep Ka4_ (ninS ne_tr_b101 (ninS ne_tr_t3 nin0))
  replace A_b1 := A_b1.keep Ka4_ (ninS ne_b1_b101 (ninS ne_b1_t3 nin0))
  replace A_b2 := A_b2.keep Ka4_ (ninS ne_b2_b101 (ninS ne_b2_t3 nin0))
  replace E_k := E_k.keep Ka4_
  replace E_f0 := E_f0.keep Ka4_
  replace E_r0 := E_r0.keep Ka4_
  replace E_b101 := E_b101.keep Ka4_
  replace E_a1 := E_a1.keep Ka4_
  replace E_a2 := E_a2.keep Ka4_
  replace R_ := ext_keep R_ Ka4_ (allS sz_R__b101 (allS sz_R__t3 all0))
  replace K_ := K_.trans Ka4_ (allS (Or.inr sz_K__b101) (allS (Or.inr sz_K__t3) all0))
  have d4 : (e3 ++ [58, 32]).length = e3.length + 2 := by rw [List.length_append]; rfl
  have c4x : (e3 ++ [58, 32]).length + r4.length = 16 := by
    have q : ([58, 32] : List Int32).length = 2 := rfl
    rw [c3x, capN, if_pos (by rw [q]; omega)] at c4
    rw [d4]; rw [q] at c4; omega
  obtain ⟨e4, ge4⟩ : ∃ z, z = e3 ++ [58, 32] := ⟨_, rfl⟩
  rw [← ge4] at Sb4 c4x d4
  have l4 : Lat e4 := by rw [ge4]; exact l3.app (show Lat [58, 32] from (by decide : ∀ c ∈ ([58, 32] : List Int32), ¬ c < 0 ∧ ¬ (255 : Int32) < c))
  refine s_aloadN X (pc' := 27) d53_26 rfl rfl rfl ?_
  refine s_virtual X (pc' := 30) (W := 1) (as' := [(.ref r0)]) (S := [(.ref k)]) (k' := 11) (n' := 240) d53_27 (hw _ (List.mem_of_getElem? (i := 54) rfl)) (hw _ (List.mem_of_getElem? (i := 55) rfl)) (hw _ (List.mem_of_getElem? (i := 57) rfl)) (hw _ (List.mem_of_getElem? (i := 56) rfl)) (nface (hw _ (List.mem_of_getElem? (i := 57) rfl))) (by decide) own_pd20 rfl E_b101 ((sb_sapp l Z a0 hw hEL b101 r0 _ Sb4 E_r0 F_r0_value F_r0_coder A_tr hrs (by omega) (by rw [c4x]; decide) (by rw [c4x]; decide) (by first | decide | omega) (by rw [c4x, capN]; simp only [List.length_nil, List.length_append, List.length_cons] at *; split <;> omega) g_b101 g_t4 ne_tr_t4 O2 P5).payS (by simp) (hw _ (List.mem_of_getElem? (i := 58) rfl)) (hw _ (List.mem_of_getElem? (i := 38) rfl)) hEL (by decide) (by decide)) (Nat.le_of_ble_eq_true rfl) rfl rfl (by decide) (by decide) (by decide) (by decide) rfl (fun T h118 v_ ws_ X hgr_ q119 => ?_)
  obtain ⟨t5, r5, rfl, Ka5_, hT5, Sb5, c5, rfl⟩ := q119
  show Go p e below _ T (mkF m 30 #[.val (.ref k), .val (.ref f0), .val (.int ln), .val (.ref r0)] [(.ref b101), (.ref k)])
  replace X := X.sub (ws' := [t5, b101, k]) (by simp)
  have ne_k_t5 : k ≠ t5 := hT5.elim (fun q => by rw [q]; exact ne_k_t4) (fun q => Nat.ne_of_lt (Nat.lt_of_lt_of_le E_k.lt q))
  have ne_f0_t5 : f0 ≠ t5 := hT5.elim (fun q => by rw [q]; exact ne_f0_t4) (fun q => Nat.ne_of_lt (Nat.lt_of_lt_of_le E_f0.lt q))
  have ne_r0_t5 : r0 ≠ t5 := hT5.elim (fun q => by rw [q]; exact ne_r0_t4) (fun q => Nat.ne_of_lt (Nat.lt_of_lt_of_le E_r0.lt q))
  have ne_b101_t5 : b101 ≠ t5 := hT5.elim (fun q => by rw [q]; exact ne_b101_t4) (fun q => Nat.ne_of_lt (Nat.lt_of_lt_of_le E_b101.lt q))
  have ne_a1_t5 : a1 ≠ t5 := hT5.elim (fun q => by rw [q]; exact ne_a1_t4) (fun q => Nat.ne_of_lt (Nat.lt_of_lt_of_le E_a1.lt q))
  have ne_a2_t5 : a2 ≠ t5 := hT5.elim (fun q => by rw [q]; exact ne_a2_t4) (fun q => Nat.ne_of_lt (Nat.lt_of_lt_of_le E_a2.lt q))
  have ne_tf_t5 : tf ≠ t5 := hT5.elim (fun q => by rw [q]; exact ne_tf_t4) (fun q => Nat.ne_of_lt (Nat.lt_of_lt_of_le A_tf.lt q))
  have ne_tr_t5 : tr ≠ t5 := hT5.elim (fun q => by rw [q]; exact ne_tr_t4) (fun q => Nat.ne_of_lt (Nat.lt_of_lt_of_le A_tr.lt q))
  have ne_b1_t5 : b1 ≠ t5 := hT5.elim (fun q => by rw [q]; exact ne_b1_t4) (fun q => Nat.ne_of_lt (Nat.lt_of_lt_of_le A_b1.lt q))
  have ne_b2_t5 : b2 ≠ t5 := hT5.elim (fun q => by rw [q]; exact ne_b2_t4) (fun q => Nat.ne_of_lt (Nat.lt_of_lt_of_le A_b2.lt q))
  have g_t5 : Z.heap.size ≤ t5 := hT5.elim (fun q => by rw [q]; exact g_t4) (fun q => Nat.le_trans g_b101 (Nat.le_trans (Nat.le_of_lt E_b101.lt) q))
  have sz_R__t5 : h.size ≤ t5 := hT5.elim (fun q => by rw [q]; exact sz_R__t4) (fun q => Nat.le_trans R_.1 q)
  have sz_K__t5 := sz_R__t5
  replace F_k_cause := F_k_cause.keep Ka5_ (ninS ne_k_b101 (ninS ne_k_t4 nin0))
  replace F_k_stackTrace := F_k_stackTrace.keep Ka5_ (ninS ne_k_b101 (ninS ne_k_t4 nin0))
  replace F_k_suppressedExceptions := F_k_suppressedExceptions.keep Ka5_ (ninS ne_k_b101 (ninS ne_k_t4 nin0))
  replace F_k_backtrace := F_k_backtrace.keep Ka5_ (ninS ne_k_b101 (ninS ne_k_t4 nin0))
  replace F_k_detailMessage := F_k_detailMessage.keep Ka5_ (ninS ne_k_b101 (ninS ne_k_t4 nin0))
  replace F_k_file := F_k_file.keep Ka5_ (ninS ne_k_b101 (ninS ne_k_t4 nin0))
  replace F_k_line := F_k_line.keep Ka5_ (ninS ne_k_b101 (ninS ne_k_t4 nin0))
  replace F_k_reason := F_k_reason.keep Ka5_ (ninS ne_k_b101 (ninS ne_k_t4 nin0))
  replace F_f0_value := F_f0_value.keep Ka5_ (ninS ne_f0_b101 (ninS ne_f0_t4 nin0))
  replace F_f0_coder := F_f0_coder.keep Ka5_ (ninS ne_f0_b101 (ninS ne_f0_t4 nin0))
  replace F_r0_value := F_r0_value.keep Ka5_ (ninS ne_r0_b101 (ninS ne_r0_t4 nin0))
  replace F_r0_coder := F_r0_coder.keep Ka5_ (ninS ne_r0_b101 (ninS ne_r0_t4 nin0))
  replace F_a1_coder := F_a1_coder.keep Ka5_ (ninS ne_a1_b101 (ninS ne_a1_t4 nin0))
  replace F_a1_value := F_a1_value.keep Ka5_ (ninS ne_a1_b101 (ninS ne_a1_t4 nin0))
  replace F_a2_coder := F_a2_coder.keep Ka5_ (ninS ne_a2_b101 (ninS ne_a2_t4 nin0))
  replace F_a2_value := F_a2_value.keep Ka5_ (ninS ne_a2_b101 (ninS ne_a2_t4 nin0))
  replace A_tf := A_tf.keep Ka5_ (ninS ne_tf_b101 (ninS ne_tf_t4 nin0))
  replace A_tr := A_tr.keep Ka5_ (ninS ne_tr_b101 (ninS ne_tr_t4 nin0))
  replace A_b1 := A_b1.keep Ka5_ (ninS ne_b1_b101 (ninS ne_b1_t4 nin0))
  replace A_b2 := A_b2.keep Ka5_ (ninS ne_b2_b101 (ninS ne_b2_t4 nin0))
  replace E_k := E_k.keep Ka5_
  replace E_f0 := E_f0.keep Ka5_
  replace E_r0 := E_r0.keep Ka5_
  replace E_b101 := E_b101.keep Ka5_
  replace E_a1 := E_a1.keep Ka5_
  replace E_a2 := E_a2.keep Ka5_
  replace R_ := ext_keep R_ Ka5_ (allS sz_R__b101 (allS sz_R__t4 all0))
  replace K_ := K_.trans Ka5_ (allS (Or.inr sz_K__b101) (allS (Or.inr sz_K__t4) all0))
  have d5 : (e4 ++ rs).length = e4.length + rs.length := List.length_append
  have c5x : (e4 ++ rs).length + r5.length ≤ 34 := by
    rw [c4x, capN] at c5
    rw [d5]; split at c5 <;> omega
  refine s_virtual X (pc' := 33) (W := 1) (as' := []) (S := [(.ref k)]) (k' := 13) (n' := 284) d53_30 (hw _ (List.mem_of_getElem? (i := 104) rfl)) (hw _ (List.mem_of_getElem? (i := 105) rfl)) (hw _ (List.mem_of_getElem? (i := 107) rfl)) (hw _ (List.mem_of_getElem? (i := 106) rfl)) (nface (hw _ (List.mem_of_getElem? (i := 107) rfl))) (by decide) own_pd22 rfl E_b101 ((sb_ts l Z a0 hw hEL b101 _ Sb5 (by omega) (by rw [d5]; omega) (l4.app hrs) O2 P5).payS (by simp) (hw _ (List.mem_of_getElem? (i := 108) rfl)) (hw _ (List.mem_of_getElem? (i := 38) rfl)) hEL (by decide) (by decide)) (Nat.le_of_ble_eq_true rfl) rfl rfl (by decide) (by decide) (by decide) (by decide) rfl (fun T h120 v_ ws_ X hgr_ q121 => ?_)
  obtain ⟨mg, rfl, Et_, S_m, rfl⟩ := q121
  show Go p e below _ T (mkF m 33 #[.val (.ref k), .val (.ref f0), .val (.int ln), .val (.ref r0)] [(.ref mg), (.ref k)])
  replace X := X.sub (ws' := [b101, k]) (by simp)
  replace E_k := E_k.ext Et_
  replace E_f0 := E_f0.ext Et_
  replace E_r0 := E_r0.ext Et_
  replace E_b101 := E_b101.ext Et_
  replace E_a1 := E_a1.ext Et_
  replace E_a2 := E_a2.ext Et_
  replace F_k_cause := F_k_cause.ext Et_
  replace F_k_stackTrace := F_k_stackTrace.ext Et_
  replace F_k_suppressedExceptions := F_k_suppressedExceptions.ext Et_
  replace F_k_backtrace := F_k_backtrace.ext Et_
  replace F_k_detailMessage := F_k_detailMessage.ext Et_
  replace F_k_file := F_k_file.ext Et_
  replace F_k_line := F_k_line.ext Et_
  replace F_k_reason := F_k_reason.ext Et_
  replace F_f0_value := F_f0_value.ext Et_
  replace F_f0_coder := F_f0_coder.ext Et_
  replace F_r0_value := F_r0_value.ext Et_
  replace F_r0_coder := F_r0_coder.ext Et_
  replace F_a1_coder := F_a1_coder.ext Et_
  replace F_a1_value := F_a1_value.ext Et_
  replace F_a2_coder := F_a2_coder.ext Et_
  replace F_a2_value := F_a2_value.ext Et_
  replace A_tf := A_tf.ext Et_
  replace A_tr := A_tr.ext Et_
  replace A_b1 := A_b1.ext Et_
  replace A_b2 := A_b2.ext Et_
  replace R_ := ext_trans R_ Et_
  replace K_ := K_.ext Et_
  have E_mg := S_m.exa
  have U0_k := Unt.ext R_ U_k
  refine s_special X (pc' := 36) (W := 0) (as' := [(.ref mg)]) (S := []) (k' := 14) (n' := 3036) d53_33 rfl (hw _ (List.mem_of_getElem? (i := 149) rfl)) (hw _ (List.mem_of_getElem? (i := 150) rfl)) (hw _ (List.mem_of_getElem? (i := 153) rfl)) (by decide) own_pd1 rfl ((own_ex1_ie l Z a0 hw hEL k mg _ g_k E_k U0_k F_k_cause F_k_stackTrace F_k_suppressedExceptions F_k_backtrace F_k_detailMessage Us Ss hlt).payS (by simp) (hw _ (List.mem_of_getElem? (i := 153) rfl)) (hw _ (List.mem_of_getElem? (i := 152) rfl)) hEL (by decide) (by decide)) (Nat.le_of_ble_eq_true rfl) rfl rfl (by decide) (by decide) (by decide) (by decide) rfl (fun T h122 v_ ws_ X hgr_ q123 => ?_)
  obtain ⟨rfl, Kp_, E'_, Ut_, Fm_, Fc_, rfl⟩ := q123
  show Go p e below _ T (mkF m 36 #[.val (.ref k), .val (.ref f0), .val (.int ln), .val (.ref r0)] [])
  replace X := X.sub (ws' := [k]) (by simp)
  have K_x := keep_of_kp Kp_
  replace F_k_file := Fld.kp Kp_ F_k_file (Or.inr (fun nd hnd => by
    simp only [Jvm.Free.Exc.sixNames, List.mem_cons, List.not_mem_nil, or_false] at hnd
    rcases hnd with rfl | rfl | rfl | rfl | rfl | rfl
    · exact slot_ne (Or.inl (hw _ (List.mem_of_getElem? (i := 162) rfl))) (Or.inr (hw _ (List.mem_of_getElem? (i := 198) rfl))) (t := (.object "java/lang/Throwable")) (t' := (.object "java/lang/String")) (by decide) (by decide) (by decide)
    · exact slot_ne (Or.inl (hw _ (List.mem_of_getElem? (i := 165) rfl))) (Or.inr (hw _ (List.mem_of_getElem? (i := 198) rfl))) (t := (.array (.object "java/lang/StackTraceElement"))) (t' := (.object "java/lang/String")) (by decide) (by decide) (by decide)
    · exact slot_ne (Or.inl (hw _ (List.mem_of_getElem? (i := 168) rfl))) (Or.inr (hw _ (List.mem_of_getElem? (i := 198) rfl))) (t := (.object "java/util/List")) (t' := (.object "java/lang/String")) (by decide) (by decide) (by decide)
    · exact slot_ne (Or.inl (hw _ (List.mem_of_getElem? (i := 193) rfl))) (Or.inr (hw _ (List.mem_of_getElem? (i := 198) rfl))) (t := (.object "java/lang/Object")) (t' := (.object "java/lang/String")) (by decide) (by decide) (by decide)
    · exact slot_ne (Or.inl (hw _ (List.mem_of_getElem? (i := 194) rfl))) (Or.inr (hw _ (List.mem_of_getElem? (i := 198) rfl))) (t := .int) (t' := (.object "java/lang/String")) (by decide) (by decide) (by decide)
    · exact slot_ne (Or.inl (hw _ (List.mem_of_getElem? (i := 192) rfl))) (Or.inr (hw _ (List.mem_of_getElem? (i := 198) rfl))) (t := (.object "java/lang/String")) (t' := (.object "java/lang/String")) (by decide) (by decide) (by decide)))
  replace F_k_line := Fld.kp Kp_ F_k_line (Or.inr (fun nd hnd => by
    simp only [Jvm.Free.Exc.sixNames, List.mem_cons, List.not_mem_nil, or_false] at hnd
    rcases hnd with rfl | rfl | rfl | rfl | rfl | rfl
    · exact slot_ne (Or.inl (hw _ (List.mem_of_getElem? (i := 162) rfl))) (Or.inr (hw _ (List.mem_of_getElem? (i := 200) rfl))) (t := (.object "java/lang/Throwable")) (t' := .int) (by decide) (by decide) (by decide)
    · exact slot_ne (Or.inl (hw _ (List.mem_of_getElem? (i := 165) rfl))) (Or.inr (hw _ (List.mem_of_getElem? (i := 200) rfl))) (t := (.array (.object "java/lang/StackTraceElement"))) (t' := .int) (by decide) (by decide) (by decide)
    · exact slot_ne (Or.inl (hw _ (List.mem_of_getElem? (i := 168) rfl))) (Or.inr (hw _ (List.mem_of_getElem? (i := 200) rfl))) (t := (.object "java/util/List")) (t' := .int) (by decide) (by decide) (by decide)
    · exact slot_ne (Or.inl (hw _ (List.mem_of_getElem? (i := 193) rfl))) (Or.inr (hw _ (List.mem_of_getElem? (i := 200) rfl))) (t := (.object "java/lang/Object")) (t' := .int) (by decide) (by decide) (by decide)
    · exact slot_ne (Or.inl (hw _ (List.mem_of_getElem? (i := 194) rfl))) (Or.inr (hw _ (List.mem_of_getElem? (i := 200) rfl))) (t := .int) (t' := .int) (by decide) (by decide) (by decide)
    · exact slot_ne (Or.inl (hw _ (List.mem_of_getElem? (i := 192) rfl))) (Or.inr (hw _ (List.mem_of_getElem? (i := 200) rfl))) (t := (.object "java/lang/String")) (t' := .int) (by decide) (by decide) (by decide)))
  replace F_k_reason := Fld.kp Kp_ F_k_reason (Or.inr (fun nd hnd => by
    simp only [Jvm.Free.Exc.sixNames, List.mem_cons, List.not_mem_nil, or_false] at hnd
    rcases hnd with rfl | rfl | rfl | rfl | rfl | rfl
    · exact slot_ne (Or.inl (hw _ (List.mem_of_getElem? (i := 162) rfl))) (Or.inr (hw _ (List.mem_of_getElem? (i := 202) rfl))) (t := (.object "java/lang/Throwable")) (t' := (.object "java/lang/String")) (by decide) (by decide) (by decide)
    · exact slot_ne (Or.inl (hw _ (List.mem_of_getElem? (i := 165) rfl))) (Or.inr (hw _ (List.mem_of_getElem? (i := 202) rfl))) (t := (.array (.object "java/lang/StackTraceElement"))) (t' := (.object "java/lang/String")) (by decide) (by decide) (by decide)
    · exact slot_ne (Or.inl (hw _ (List.mem_of_getElem? (i := 168) rfl))) (Or.inr (hw _ (List.mem_of_getElem? (i := 202) rfl))) (t := (.object "java/util/List")) (t' := (.object "java/lang/String")) (by decide) (by decide) (by decide)
    · exact slot_ne (Or.inl (hw _ (List.mem_of_getElem? (i := 193) rfl))) (Or.inr (hw _ (List.mem_of_getElem? (i := 202) rfl))) (t := (.object "java/lang/Object")) (t' := (.object "java/lang/String")) (by decide) (by decide) (by decide)
    · exact slot_ne (Or.inl (hw _ (List.mem_of_getElem? (i := 194) rfl))) (Or.inr (hw _ (List.mem_of_getElem? (i := 202) rfl))) (t := .int) (t' := (.object "java/lang/String")) (by decide) (by decide) (by decide)
    · exact slot_ne (Or.inl (hw _ (List.mem_of_getElem? (i := 192) rfl))) (Or.inr (hw _ (List.mem_of_getElem? (i := 202) rfl))) (t := (.object "java/lang/String")) (t' := (.object "java/lang/String")) (by decide) (by decide) (by decide)))
  replace E_mg := E_mg.keep K_x
  replace K_ := K_.trans K_x (allS (Or.inl (by simp)) all0)
  have E_k := E'_
  have N_k := Ut_
  have F_k_detailMessage := Fm_
  have F_k_cause := Fc_
  refine s_aloadN X (pc' := 37) d53_36 rfl rfl rfl ?_
  refine s_aloadN X (pc' := 38) d53_37 rfl rfl rfl ?_
  refine s_putf X (pc' := 41) d53_38 (hw _ (List.mem_of_getElem? (i := 197) rfl)) Via.refl F_k_file E_k (Or.inr ⟨(hw _ (List.mem_of_getElem? (i := 198) rfl)), rfl, rfl⟩) (hw _ (List.mem_of_getElem? (i := 31) rfl)) (ty := (.object "java/lang/String")) (by decide) rfl rfl g_k (by simp) rfl (fun T h124 X W125 => ?_)
  replace F_k_file := F_k_file.same W125
  replace F_k_line := F_k_line.other W125 (Or.inr (slot_ne (Or.inr (hw _ (List.mem_of_getElem? (i := 200) rfl))) (Or.inr (hw _ (List.mem_of_getElem? (i := 198) rfl))) (t := .int) (t' := (.object "java/lang/String")) (by decide) (by decide) (by decide)))
  replace F_k_reason := F_k_reason.other W125 (Or.inr (slot_ne (Or.inr (hw _ (List.mem_of_getElem? (i := 202) rfl))) (Or.inr (hw _ (List.mem_of_getElem? (i := 198) rfl))) (t := (.object "java/lang/String")) (t' := (.object "java/lang/String")) (by decide) (by decide) (by decide)))
  replace F_k_detailMessage := F_k_detailMessage.other W125 (Or.inr (slot_ne (Or.inl (hw _ (List.mem_of_getElem? (i := 192) rfl))) (Or.inr (hw _ (List.mem_of_getElem? (i := 198) rfl))) (t := (.object "java/lang/String")) (t' := (.object "java/lang/String")) (by decide) (by decide) (by decide)))
  replace F_k_cause := F_k_cause.other W125 (Or.inr (slot_ne (Or.inl (hw _ (List.mem_of_getElem? (i := 162) rfl))) (Or.inr (hw _ (List.mem_of_getElem? (i := 198) rfl))) (t := (.object "java/lang/Throwable")) (t' := (.object "java/lang/String")) (by decide) (by decide) (by decide)))
  replace E_mg := E_mg.wr W125
  replace E_k := E_k.wr W125
  replace N_k := Unt.wr W125 N_k
  replace K_ := K_.wr W125 (Or.inl (by simp))
  refine s_aloadN X (pc' := 42) d53_41 rfl rfl rfl ?_
  refine s_iloadN X (pc' := 43) d53_42 rfl rfl ?_
  refine s_putf X (pc' := 46) d53_43 (hw _ (List.mem_of_getElem? (i := 199) rfl)) Via.refl F_k_line E_k (Or.inr ⟨(hw _ (List.mem_of_getElem? (i := 200) rfl)), rfl, rfl⟩) (hw _ (List.mem_of_getElem? (i := 31) rfl)) (ty := .int) (by decide) rfl rfl g_k (by simp) rfl (fun T h126 X W127 => ?_)
  replace F_k_file := F_k_file.other W127 (Or.inr (slot_ne (Or.inr (hw _ (List.mem_of_getElem? (i := 198) rfl))) (Or.inr (hw _ (List.mem_of_getElem? (i := 200) rfl))) (t := (.object "java/lang/String")) (t' := .int) (by decide) (by decide) (by decide)))
  replace F_k_line := F_k_line.same W127
  replace F_k_reason := F_k_reason.other W127 (Or.inr (slot_ne (Or.inr (hw _ (List.mem_of_getElem? (i := 202) rfl))) (Or.inr (hw _ (List.mem_of_getElem? (i := 200) rfl))) (t := (.object "java/lang/String")) (t' := .int) (by decide) (by decide) (by decide)))
  replace F_k_detailMessage := F_k_detailMessage.other W127 (Or.inr (slot_ne (Or.inl (hw _ (List.mem_of_getElem? (i := 192) rfl))) (Or.inr (hw _ (List.mem_of_getElem? (i := 200) rfl))) (t := (.object "java/lang/String")) (t' := .int) (by decide) (by decide) (by decide)))
  replace F_k_cause := F_k_cause.other W127 (Or.inr (slot_ne (Or.inl (hw _ (List.mem_of_getElem? (i := 162) rfl))) (Or.inr (hw _ (List.mem_of_getElem? (i := 200) rfl))) (t := (.object "java/lang/Throwable")) (t' := .int) (by decide) (by decide) (by decide)))
  replace E_mg := E_mg.wr W127
  replace E_k := E_k.wr W127
  replace N_k := Unt.wr W127 N_k
  replace K_ := K_.wr W127 (Or.inl (by simp))
  refine s_aloadN X (pc' := 47) d53_46 rfl rfl rfl ?_
  refine s_aloadN X (pc' := 48) d53_47 rfl rfl rfl ?_
  refine s_putf X (pc' := 51) d53_48 (hw _ (List.mem_of_getElem? (i := 201) rfl)) Via.refl F_k_reason E_k (Or.inr ⟨(hw _ (List.mem_of_getElem? (i := 202) rfl)), rfl, rfl⟩) (hw _ (List.mem_of_getElem? (i := 31) rfl)) (ty := (.object "java/lang/String")) (by decide) rfl rfl g_k (by simp) rfl (fun T h128 X W129 => ?_)
  replace F_k_file := F_k_file.other W129 (Or.inr (slot_ne (Or.inr (hw _ (List.mem_of_getElem? (i := 198) rfl))) (Or.inr (hw _ (List.mem_of_getElem? (i := 202) rfl))) (t := (.object "java/lang/String")) (t' := (.object "java/lang/String")) (by decide) (by decide) (by decide)))
  replace F_k_line := F_k_line.other W129 (Or.inr (slot_ne (Or.inr (hw _ (List.mem_of_getElem? (i := 200) rfl))) (Or.inr (hw _ (List.mem_of_getElem? (i := 202) rfl))) (t := .int) (t' := (.object "java/lang/String")) (by decide) (by decide) (by decide)))
  replace F_k_reason := F_k_reason.same W129
  replace F_k_detailMessage := F_k_detailMessage.other W129 (Or.inr (slot_ne (Or.inl (hw _ (List.mem_of_getElem? (i := 192) rfl))) (Or.inr (hw _ (List.mem_of_getElem? (i := 202) rfl))) (t := (.object "java/lang/String")) (t' := (.object "java/lang/String")) (by decide) (by decide) (by decide)))
  replace F_k_cause := F_k_cause.other W129 (Or.inr (slot_ne (Or.inl (hw _ (List.mem_of_getElem? (i := 162) rfl))) (Or.inr (hw _ (List.mem_of_getElem? (i := 202) rfl))) (t := (.object "java/lang/Throwable")) (t' := (.object "java/lang/String")) (by decide) (by decide) (by decide)))
  replace E_mg := E_mg.wr W129
  replace E_k := E_k.wr W129
  replace N_k := Unt.wr W129 N_k
  replace K_ := K_.wr W129 (Or.inl (by simp))
  exact s_ret X hEL (ws' := []) d53_51 (by decide) (by decide) (fun x q => by simp at q) ⟨mg, rfl, K_, E_k, F_k_file, F_k_line, F_k_reason, F_k_detailMessage, E_mg, rfl⟩
theorem d7_0 : decode prog_18_method_2_code 0 = .ok (.aload_n 0, 1) := by decide +kernel
theorem d7_1 : decode prog_18_method_2_code 1 = .ok (.new 1, 3) := by decide +kernel
theorem d7_4 : decode prog_18_method_2_code 4 = .ok (.dup, 1) := by decide +kernel
theorem d7_5 : decode prog_18_method_2_code 5 = .ok (.invokespecial 3, 3) := by decide +kernel
theorem d7_8 : decode prog_18_method_2_code 8 = .ok (.aload_n 1, 1) := by decide +kernel
theorem d7_9 : decode prog_18_method_2_code 9 = .ok (.invokevirtual 7, 3) := by decide +kernel
theorem d7_12 : decode prog_18_method_2_code 12 = .ok (.ldc 16, 2) := by decide +kernel
theorem d7_14 : decode prog_18_method_2_code 14 = .ok (.invokevirtual 7, 3) := by decide +kernel
theorem d7_17 : decode prog_18_method_2_code 17 = .ok (.aload_n 2, 1) := by decide +kernel
theorem d7_18 : decode prog_18_method_2_code 18 = .ok (.invokevirtual 7, 3) := by decide +kernel
theorem d7_21 : decode prog_18_method_2_code 21 = .ok (.invokevirtual 18, 3) := by decide +kernel
theorem d7_24 : decode prog_18_method_2_code 24 = .ok (.invokespecial 22, 3) := by decide +kernel
theorem d7_27 : decode prog_18_method_2_code 27 = .ok (.aload_n 0, 1) := by decide +kernel
theorem d7_28 : decode prog_18_method_2_code 28 = .ok (.aload_n 1, 1) := by decide +kernel
theorem d7_29 : decode prog_18_method_2_code 29 = .ok (.putfield 27, 3) := by decide +kernel
theorem d7_32 : decode prog_18_method_2_code 32 = .ok (.aload_n 0, 1) := by decide +kernel
theorem d7_33 : decode prog_18_method_2_code 33 = .ok (.iconst 0, 1) := by decide +kernel
theorem d7_34 : decode prog_18_method_2_code 34 = .ok (.putfield 33, 3) := by decide +kernel
theorem d7_37 : decode prog_18_method_2_code 37 = .ok (.aload_n 0, 1) := by decide +kernel
theorem d7_38 : decode prog_18_method_2_code 38 = .ok (.aload_n 2, 1) := by decide +kernel
theorem d7_39 : decode prog_18_method_2_code 39 = .ok (.putfield 37, 3) := by decide +kernel
theorem d7_42 : decode prog_18_method_2_code 42 = .ok (.return_, 1) := by decide +kernel
theorem ef_own_ix2 (m : MethodId) (k f0 : Addr) (r0 : Addr) : entryFrame m #[(.ref k), (.ref f0), (.ref r0)] 3 = mkF m 0 #[.val (.ref k), .val (.ref f0), .val (.ref r0)] [] := by first | (simp [entryFrame, mkF, argsToLocals, Value.category]; done) | rfl
set_option maxRecDepth 65536 in
set_option maxHeartbeats 40000000 in
theorem own_ix2 (l : Launch) (Z : State) (a0 : Array Value) (hw : ∀ d ∈ tables_1, d.before a0 Z = true) (hEL : EW Z a0 consts_1) (k f0 : Addr) (r0 : Addr) (h : Heap) {fs rs : List Int32} {G1 : Int32} {dO dT : Addr} {vO vT : List Value} {us ss : Addr} (g_k : Z.heap.size ≤ k) (E_k : Exa Z h k "com/example/vestwright/vestwright/input/InputException") (U_k : Unt h k) (F_k_cause : Fld Z h k "java/lang/Throwable" "cause" "Ljava/lang/Throwable;" .null) (F_k_stackTrace : Fld Z h k "java/lang/Throwable" "stackTrace" "[Ljava/lang/StackTraceElement;" .null) (F_k_suppressedExceptions : Fld Z h k "java/lang/Throwable" "suppressedExceptions" "Ljava/util/List;" .null) (F_k_backtrace : Fld Z h k "java/lang/Throwable" "backtrace" "Ljava/lang/Object;" .null) (F_k_detailMessage : Fld Z h k "java/lang/Throwable" "detailMessage" "Ljava/lang/String;" .null) (F_k_file : Fld Z h k "com/example/vestwright/vestwright/input/InputException" "file" "Ljava/lang/String;" .null) (F_k_line : Fld Z h k "com/example/vestwright/vestwright/input/InputException" "line" "I" (.int (0 : Int32))) (F_k_reason : Fld Z h k "com/example/vestwright/vestwright/input/InputException" "reason" "Ljava/lang/String;" .null) (S_f : Str Z h f0 fs) (S_r : Str Z h r0 rs) (hfs : Lat fs) (hrs : Lat rs) (hfl : fs.length ≤ 2) (hrl : rs.length ≤ 3) (Us : Sta Z Z.heap "java/lang/Throwable" "UNASSIGNED_STACK" "[Ljava/lang/StackTraceElement;" (.ref us)) (Ss : Sta Z Z.heap "java/lang/Throwable" "SUPPRESSED_SENTINEL" "Ljava/util/List;" (.ref ss)) (hlt : l.stackTraces = true) (dg : Digs Z dO dT vO vT) (O2 : Sta Z Z.heap "java/lang/String" "COMPACT_STRINGS" "Z" (.int G1)) (P5 : ¬ (G1 = (0 : Int32))) :
    Con l Z consts_1 True (⟨"com/example/vestwright/vestwright/input/InputException", "<init>", "(Ljava/lang/String;Ljava/lang/String;)V"⟩ : MethodName) prog_18_method_2_code 3 none ({ frames := 6, cells := 16, slots := 3200, locals := 92 } : Room) [k] #[(.ref k), (.ref f0), (.ref r0)] h (fun v h' ws' => ∃ mg, v = none ∧ Keep h h' [k] ∧ Exa Z h' k "com/example/vestwright/vestwright/input/InputException" ∧ Fld Z h' k "com/example/vestwright/vestwright/input/InputException" "file" "Ljava/lang/String;" (.ref f0) ∧ Fld Z h' k "com/example/vestwright/vestwright/input/InputException" "line" "I" (.int (0 : Int32)) ∧ Fld Z h' k "com/example/vestwright/vestwright/input/InputException" "reason" "Ljava/lang/String;" (.ref r0) ∧ Fld Z h' k "java/lang/Throwable" "detailMessage" "Ljava/lang/String;" (.ref mg) ∧ Exa Z h' mg "java/lang/String" ∧ ws' = []) := by
  refine Con.intro own_pn31 (fun p e s m below meth c T X => ?_)
  rw [ef_own_ix2 m k f0 r0]
  have R_ : Ext h h := ext_refl _
  have K_ : Keep h h [k] := Keep.refl _ _
  have S_f0 := S_f
  have S_r0 := S_r
  obtain ⟨tf, E_f0, F_f0_value, F_f0_coder, A_tf⟩ := S_f.latin (fun c hc => (hfs c hc).2)
  obtain ⟨tr, E_r0, F_r0_value, F_r0_coder, A_tr⟩ := S_r.latin (fun c hc => (hrs c hc).2)
  refine s_aloadN X (pc' := 1) d7_0 rfl rfl rfl ?_
  refine s_new X (pc' := 4) (k' := 1) (n' := 4) d7_1 (hw _ (List.mem_of_getElem? (i := 36) rfl)) (hw _ (List.mem_of_getElem? (i := 37) rfl)) (hw _ (List.mem_of_getElem? (i := 38) rfl)) (by decide) (by decide) (by decide) (by decide) rfl (fun T h131 b130 gb_b130 X' E132 E_b130 D_b130 U_b130 => ?_)
  have g_b130 : Z.heap.size ≤ b130 := by rw [gb_b130]; exact X.lt
  have ne_k_b130 : k ≠ b130 := Nat.ne_of_lt (by rw [gb_b130]; exact E_k.lt)
  have ne_f0_b130 : f0 ≠ b130 := Nat.ne_of_lt (by rw [gb_b130]; exact E_f0.lt)
  have ne_r0_b130 : r0 ≠ b130 := Nat.ne_of_lt (by rw [gb_b130]; exact E_r0.lt)
  have ne_tf_b130 : tf ≠ b130 := Nat.ne_of_lt (by rw [gb_b130]; exact A_tf.lt)
  have ne_tr_b130 : tr ≠ b130 := Nat.ne_of_lt (by rw [gb_b130]; exact A_tr.lt)
  have sz_R__b130 : h.size ≤ b130 := by rw [gb_b130]; exact R_.1
  have sz_K__b130 : h.size ≤ b130 := by rw [gb_b130]; exact K_.1
  replace E_k := E_k.ext E132
  replace E_f0 := E_f0.ext E132
  replace E_r0 := E_r0.ext E132
  replace F_k_cause := F_k_cause.ext E132
  replace F_k_stackTrace := F_k_stackTrace.ext E132
  replace F_k_suppressedExceptions := F_k_suppressedExceptions.ext E132
  replace F_k_backtrace := F_k_backtrace.ext E132
  replace F_k_detailMessage := F_k_detailMessage.ext E132
  replace F_k_file := F_k_file.ext E132
  replace F_k_line := F_k_line.ext E132
  replace F_k_reason := F_k_reason.ext E132
  replace F_f0_value := F_f0_value.ext E132
  replace F_f0_coder := F_f0_coder.ext E132
  replace F_r0_value := F_r0_value.ext E132
  replace F_r0_coder := F_r0_coder.ext E132
  replace A_tf := A_tf.ext E132
  replace A_tr := A_tr.ext E132
  replace R_ := ext_trans R_ E132
  replace K_ := K_.ext E132
  replace X := X'
  have F_b130_value : Fld Z h131 b130 "java/lang/AbstractStringBuilder" "value" "[B" .null := D_b130 (Or.inl (hw _ (List.mem_of_getElem? (i := 51) rfl))) (ty := (.array .byte)) (by decide)
  have F_b130_coder : Fld Z h131 b130 "java/lang/AbstractStringBuilder" "coder" "B" (.int (0 : Int32)) := D_b130 (Or.inl (hw _ (List.mem_of_getElem? (i := 53) rfl))) (ty := .byte) (by decide)
  have F_b130_count : Fld Z h131 b130 "java/lang/AbstractStringBuilder" "count" "I" (.int (0 : Int32)) := D_b130 (Or.inl (hw _ (List.mem_of_getElem? (i := 75) rfl))) (ty := .int) (by decide)
  refine s_dup X (pc' := 5) d7_4 rfl rfl ?_
  refine s_special X (pc' := 8) (W := 2) (as' := []) (S := [(.ref b130), (.ref k)]) (k' := 2) (n' := 20) d7_5 rfl (hw _ (List.mem_of_getElem? (i := 39) rfl)) (hw _ (List.mem_of_getElem? (i := 40) rfl)) (hw _ (List.mem_of_getElem? (i := 41) rfl)) (by decide) own_pd19 rfl ((sb_ini l Z a0 hw hEL b130 _ g_b130 E_b130 F_b130_value F_b130_coder F_b130_count O2 P5).payS (by simp) (hw _ (List.mem_of_getElem? (i := 41) rfl)) (hw _ (List.mem_of_getElem? (i := 38) rfl)) hEL (by decide) (by decide)) (Nat.le_of_ble_eq_true rfl) rfl rfl (by decide) (by decide) (by decide) (by decide) rfl (fun T h133 v_ ws_ X hgr_ q134 => ?_)
  obtain ⟨rfl, K1_, ⟨t0, hzt, Sb0, rfl⟩⟩ := q134
  show Go p e below _ T (mkF m 8 #[.val (.ref k), .val (.ref f0), .val (.ref r0)] [(.ref b130), (.ref k)])
  replace X := X.sub (ws' := [t0, b130, k]) (by simp)
  have ne_k_t0 : k ≠ t0 := Nat.ne_of_lt (Nat.lt_of_lt_of_le E_k.lt hzt)
  have ne_f0_t0 : f0 ≠ t0 := Nat.ne_of_lt (Nat.lt_of_lt_of_le E_f0.lt hzt)
  have ne_r0_t0 : r0 ≠ t0 := Nat.ne_of_lt (Nat.lt_of_lt_of_le E_r0.lt hzt)
  have ne_b130_t0 : b130 ≠ t0 := Nat.ne_of_lt (Nat.lt_of_lt_of_le E_b130.lt hzt)
  have ne_tf_t0 : tf ≠ t0 := Nat.ne_of_lt (Nat.lt_of_lt_of_le A_tf.lt hzt)
  have ne_tr_t0 : tr ≠ t0 := Nat.ne_of_lt (Nat.lt_of_lt_of_le A_tr.lt hzt)
  have g_t0 : Z.heap.size ≤ t0 := Nat.le_trans g_b130 (Nat.le_trans (Nat.le_of_lt E_b130.lt) hzt)
  have sz_R__t0 : h.size ≤ t0 := Nat.le_trans R_.1 hzt
  have sz_K__t0 := sz_R__t0
  replace F_k_cause := F_k_cause.keep K1_ (ninS ne_k_b130 nin0)
  replace F_k_stackTrace := F_k_stackTrace.keep K1_ (ninS ne_k_b130 nin0)
  replace F_k_suppressedExceptions := F_k_suppressedExceptions.keep K1_ (ninS ne_k_b130 nin0)
  replace F_k_backtrace := F_k_backtrace.keep K1_ (ninS ne_k_b130 nin0)
  replace F_k_detailMessage := F_k_detailMessage.keep K1_ (ninS ne_k_b130 nin0)
  replace F_k_file := F_k_file.keep K1_ (ninS ne_k_b130 nin0)
  replace F_k_line := F_k_line.keep K1_ (ninS ne_k_b130 nin0)
  replace F_k_reason := F_k_reason.keep K1_ (ninS ne_k_b130 nin0)
  replace F_f0_value := F_f0_value.keep K1_ (ninS ne_f0_b130 nin0)
  replace F_f0_coder := F_f0_coder.keep K1_ (ninS ne_f0_b130 nin0)
  replace F_r0_value := F_r0_value.keep K1_ (ninS ne_r0_b130 nin0)
  replace F_r0_coder := F_r0_coder.keep K1_ (ninS ne_r0_b130 nin0)
  replace A_tf := A_tf.keep K1_ (ninS ne_tf_b130 nin0)
  replace A_tr := A_tr.keep K1_ (ninS ne_tr_b130 nin0)
  replace E_k := E_k.keep K1_
  replace E_f0 := E_f0.keep K1_
  replace E_r0 := E_r0.keep K1_
  replace E_b130 := E_b130.keep K1_
  replace R_ := ext_keep R_ K1_ (allS sz_R__b130 all0)
  replace K_ := K_.trans K1_ (allS (Or.inr sz_K__b130) all0)
  have c0 : ([] : List Int32).length + (List.replicate 16 (Value.int (0 : Int32))).length = 16 := rfl
  have c0x := c0
  refine s_aloadN X (pc' := 9) d7_8 rfl rfl rfl ?_
  refine s_virtual X (pc' := 12) (W := 1) (as' := [(.ref f0)]) (S := [(.ref k)]) (k' := 3) (n' := 60) d7_9 (hw _ (List.mem_of_getElem? (i := 54) rfl)) (hw _ (List.mem_of_getElem? (i := 55) rfl)) (hw _ (List.mem_of_getElem? (i := 57) rfl)) (hw _ (List.mem_of_getElem? (i := 56) rfl)) (nface (hw _ (List.mem_of_getElem? (i := 57) rfl))) (by decide) own_pd20 rfl E_b130 ((sb_sapp l Z a0 hw hEL b130 f0 _ Sb0 E_f0 F_f0_value F_f0_coder A_tf hfs (by omega) (by rw [c0x]; decide) (by rw [c0x]; decide) (by first | decide | omega) (by rw [c0x, capN]; simp only [List.length_nil, List.length_append, List.length_cons] at *; split <;> omega) g_b130 g_t0 ne_tf_t0 O2 P5).payS (by simp) (hw _ (List.mem_of_getElem? (i := 58) rfl)) (hw _ (List.mem_of_getElem? (i := 38) rfl)) hEL (by decide) (by decide)) (Nat.le_of_ble_eq_true rfl) rfl rfl (by decide) (by decide) (by decide) (by decide) rfl (fun T h135 v_ ws_ X hgr_ q136 => ?_)
  obtain ⟨t1, r1, rfl, Ka1_, hT1, Sb1, c1, rfl⟩ := q136
  show Go p e below _ T (mkF m 12 #[.val (.ref k), .val (.ref f0), .val (.ref r0)] [(.ref b130), (.ref k)])
  replace X := X.sub (ws' := [t1, b130, k]) (by simp)
  have ne_k_t1 : k ≠ t1 := hT1.elim (fun q => by rw [q]; exact ne_k_t0) (fun q => Nat.ne_of_lt (Nat.lt_of_lt_of_le E_k.lt q))
  have ne_f0_t1 : f0 ≠ t1 := hT1.elim (fun q => by rw [q]; exact ne_f0_t0) (fun q => Nat.ne_of_lt (Nat.lt_of_lt_of_le E_f0.lt q))
  have ne_r0_t1 : r0 ≠ t1 := hT1.elim (fun q => by rw [q]; exact ne_r0_t0) (fun q => Nat.ne_of_lt (Nat.lt_of_lt_of_le E_r0.lt q))
  have ne_b130_t1 : b130 ≠ t1 := hT1.elim (fun q => by rw [q]; exact ne_b130_t0) (fun q => Nat.ne_of_lt (Nat.lt_of_lt_of_le E_b130.lt q))
  have ne_tf_t1 : tf ≠ t1 := hT1.elim (fun q => by rw [q]; exact ne_tf_t0) (fun q => Nat.ne_of_lt (Nat.lt_of_lt_of_le A_tf.lt q))
  have ne_tr_t1 : tr ≠ t1 := hT1.elim (fun q => by rw [q]; exact ne_tr_t0) (fun q => Nat.ne_of_lt (Nat.lt_of_lt_of_le A_tr.lt q))
  have g_t1 : Z.heap.size ≤ t1 := hT1.elim (fun q => by rw [q]; exact g_t0) (fun q => Nat.le_trans g_b130 (Nat.le_trans (Nat.le_of_lt E_b130.lt) q))
  have sz_R__t1 : h.size ≤ t1 := hT1.elim (fun q => by rw [q]; exact sz_R__t0) (fun q => Nat.le_trans R_.1 q)
  have sz_K__t1 := sz_R__t1
  replace F_k_cause := F_k_cause.keep Ka1_ (ninS ne_k_b130 (ninS ne_k_t0 nin0))
  replace F_k_stackTrace := F_k_stackTrace.keep Ka1_ (ninS ne_k_b130 (ninS ne_k_t0 nin0))
  replace F_k_suppressedExceptions := F_k_suppressedExceptions.keep Ka1_ (ninS ne_k_b130 (ninS ne_k_t0 nin0))
  replace F_k_backtrace := F_k_backtrace.keep Ka1_ (ninS ne_k_b130 (ninS ne_k_t0 nin0))
  replace F_k_detailMessage := F_k_detailMessage.keep Ka1_ (ninS ne_k_b130 (ninS ne_k_t0 nin0))
  replace F_k_file := F_k_file.keep Ka1_ (ninS ne_k_b130 (ninS ne_k_t0 nin0))
  replace F_k_line := F_k_line.keep Ka1_ (ninS ne_k_b130 (ninS ne_k_t0 nin0))
  replace F_k_reason := F_k_reason.keep Ka1_ (ninS ne_k_b130 (ninS ne_k_t0 nin0))
  replace F_f0_value := F_f0_value.keep Ka1_ (ninS ne_f0_b130 (ninS ne_f0_t0 nin0))
  replace F_f0_coder := F_f0_coder.keep Ka1_ (ninS ne_f0_b130 (ninS ne_f0_t0 nin0))
  replace F_r0_value := F_r0_value.keep Ka1_ (ninS ne_r0_b130 (ninS ne_r0_t0 nin0))
  replace F_r0_coder := F_r0_coder.keep Ka1_ (ninS ne_r0_b130 (ninS ne_r0_t0 nin0))
  replace A_tf := A_tf.keep Ka1_ (ninS ne_tf_b130 (ninS ne_tf_t0 nin0))
  replace A_tr := A_tr.keep Ka1_ (ninS ne_tr_b130 (ninS ne_tr_t0 nin0))
  replace E_k := E_k.keep Ka1_
  replace E_f0 := E_f0.keep Ka1_
  replace E_r0 := E_r0.keep Ka1_
  replace E_b130 := E_b130.keep Ka1_
  replace R_ := ext_keep R_ Ka1_ (allS sz_R__b130 (allS sz_R__t0 all0))
  replace K_ := K_.trans Ka1_ (allS (Or.inr sz_K__b130) (allS (Or.inr sz_K__t0) all0))
  have d1 : (([] : List Int32) ++ fs).length = fs.length := by simp
  have c1x : (([] : List Int32) ++ fs).length + r1.length = 16 := by
    rw [c0x, capN, if_pos (by simp only [List.length_nil]; omega)] at c1
    rw [d1]; simp only [List.length_nil] at c1; omega
  obtain ⟨e1, ge1⟩ : ∃ z, z = ([] : List Int32) ++ fs := ⟨_, rfl⟩
  rw [← ge1] at Sb1 c1x d1
  have l1 : Lat e1 := by rw [ge1]; exact Lat.app (fun c hc => nomatch hc) hfs
  refine s_ldcS X (pc' := 14) (k' := 5) (n' := 72) (nn := 8) (vs := [(.int (58 : Int32)), (.int (32 : Int32))]) (z := (2 : Int32)) hEL d7_12 (hw _ (List.mem_of_getElem? (i := 101) rfl)) (fun d hd => hw d ((by decide +kernel : ∀ d ∈ Bundle.stringAtoms, d ∈ tables_1) d hd)) (by simp [consts_1]) (by decide) (by decide) (by decide) (by decide) (by decide) (by decide) (by decide) (by decide) (by decide) rfl (fun T h137 a2 b2 kc_b2 X' E138 E_a2 F_a2_coder F_a2_value V_b2 nw_ => ?_)
  replace E_k := E_k.ext E138
  replace E_f0 := E_f0.ext E138
  replace E_r0 := E_r0.ext E138
  replace E_b130 := E_b130.ext E138
  replace F_k_cause := F_k_cause.ext E138
  replace F_k_stackTrace := F_k_stackTrace.ext E138
  replace F_k_suppressedExceptions := F_k_suppressedExceptions.ext E138
  replace F_k_backtrace := F_k_backtrace.ext E138
  replace F_k_detailMessage := F_k_detailMessage.ext E138
  replace F_k_file := F_k_file.ext E138
  replace F_k_line := F_k_line.ext E138
  replace F_k_reason := F_k_reason.ext E138
  replace F_f0_value := F_f0_value.ext E138
  replace F_f0_coder := F_f0_coder.ext E138
  replace F_r0_value := F_r0_value.ext E138
  replace F_r0_coder := F_r0_coder.ext E138
  replace A_tf := A_tf.ext E138
  replace A_tr := A_tr.ext E138
  replace R_ := ext_trans R_ E138
  replace K_ := K_.ext E138
  replace X := X'
  have ne_t1_a2 : t1 ≠ a2 := (nw_ t1 (by simp)).1
  have ne_t1_b2 : t1 ≠ b2 := (nw_ t1 (by simp)).2
  have ne_b130_a2 : b130 ≠ a2 := (nw_ b130 (by simp)).1
  have ne_b130_b2 : b130 ≠ b2 := (nw_ b130 (by simp)).2
  have ne_k_a2 : k ≠ a2 := (nw_ k (by simp)).1
  have ne_k_b2 : k ≠ b2 := (nw_ k (by simp)).2
  have A_b2 : Ary Z h137 b2 .byte (bys [58, 32]) := Ary.of_arv V_b2 rfl (by decide)
  replace Sb1 := Sb1.ext E138
  have ne_a2_t1 := ne_t1_a2.symm
  have ne_b2_t1 := ne_t1_b2.symm
  have ne_a2_b130 := ne_b130_a2.symm
  have ne_b2_b130 := ne_b130_b2.symm
  have ne_a2_k := ne_k_a2.symm
  have ne_b2_k := ne_k_b2.symm
  refine s_virtual X (pc' := 17) (W := 1) (as' := [(.ref a2)]) (S := [(.ref k)]) (k' := 6) (n' := 112) d7_14 (hw _ (List.mem_of_getElem? (i := 54) rfl)) (hw _ (List.mem_of_getElem? (i := 55) rfl)) (hw _ (List.mem_of_getElem? (i := 57) rfl)) (hw _ (List.mem_of_getElem? (i := 56) rfl)) (nface (hw _ (List.mem_of_getElem? (i := 57) rfl))) (by decide) own_pd20 rfl E_b130 ((sb_sapp l Z a0 hw hEL b130 a2 _ Sb1 E_a2 F_a2_value F_a2_coder A_b2 (show Lat [58, 32] from (by decide : ∀ c ∈ ([58, 32] : List Int32), ¬ c < 0 ∧ ¬ (255 : Int32) < c)) (by decide) (by rw [c1x]; decide) (by rw [c1x]; decide) (by first | decide | omega) (by rw [c1x, capN]; simp only [List.length_nil, List.length_append, List.length_cons] at *; split <;> omega) g_b130 g_t1 ne_b2_t1 O2 P5).payS (by simp) (hw _ (List.mem_of_getElem? (i := 58) rfl)) (hw _ (List.mem_of_getElem? (i := 38) rfl)) hEL (by decide) (by decide)) (Nat.le_of_ble_eq_true rfl) rfl rfl (by decide) (by decide) (by decide) (by decide) rfl (fun T h139 v_ ws_ X hgr_ q140 => ?_)
  obtain ⟨t2, r2, rfl, Ka2_, hT2, Sb2, c2, rfl⟩ := q140
  show Go p e below _ T (mkF m 17 #[.val (.ref k), .val (.ref f0), .val (.ref r0)] [(.ref b130), (.ref k)])
  replace X := X.sub (ws' := [t2, b130, k]) (by simp)
  have ne_k_t2 : k ≠ t2 := hT2.elim (fun q => by rw [q]; exact ne_k_t1) (fun q => Nat.ne_of_lt (Nat.lt_of_lt_of_le E_k.lt q))
  have ne_f0_t2 : f0 ≠ t2 := hT2.elim (fun q => by rw [q]; exact ne_f0_t1) (fun q => Nat.ne_of_lt (Nat.lt_of_lt_of_le E_f0.lt q))
  have ne_r0_t2 : r0 ≠ t2 := hT2.elim (fun q => by rw [q]; exact ne_r0_t1) (fun q => Nat.ne_of_lt (Nat.lt_of_lt_of_le E_r0.lt q))
  have ne_b130_t2 : b130 ≠ t2 := hT2.elim (fun q => by rw [q]; exact ne_b130_t1) (fun q => Nat.ne_of_lt (Nat.lt_of_lt_of_le E_b130.lt q))
  have ne_a2_t2 : a2 ≠ t2 := hT2.elim (fun q => by rw [q]; exact ne_a2_t1) (fun q => Nat.ne_of_lt (Nat.lt_of_lt_of_le E_a2.lt q))
  have ne_tf_t2 : tf ≠ t2 := hT2.elim (fun q => by rw [q]; exact ne_tf_t1) (fun q => Nat.ne_of_lt (Nat.lt_of_lt_of_le A_tf.lt q))
  have ne_tr_t2 : tr ≠ t2 := hT2.elim (fun q => by rw [q]; exact ne_tr_t1) (fun q => Nat.ne_of_lt (Nat.lt_of_lt_of_le A_tr.lt q))
  have ne_b2_t2 : b2 ≠ t2 := hT2.elim (fun q => by rw [q]; exact ne_b2_t1) (fun q => Nat.ne_of_lt (Nat.lt_of_lt_of_le A_b2.lt q))
  have g_t2 : Z.heap.size ≤ t2 := hT2.elim (fun q => by rw [q]; exact g_t1) (fun q => Nat.le_trans g_b130 (Nat.le_trans (Nat.le_of_lt E_b130.lt) q))
  have sz_R__t2 : h.size ≤ t2 := hT2.elim (fun q => by rw [q]; exact sz_R__t1) (fun q => Nat.le_trans R_.1 q)
  have sz_K__t2 := sz_R__t2
  replace F_k_cause := F_k_cause.keep Ka2_ (ninS ne_k_b130 (ninS ne_k_t1 nin0))
  replace F_k_stackTrace := F_k_stackTrace.keep Ka2_ (ninS ne_k_b130 (ninS ne_k_t1 nin0))
  replace F_k_suppressedExceptions := F_k_suppressedExceptions.keep Ka2_ (ninS ne_k_b130 (ninS ne_k_t1 nin0))
  replace F_k_backtrace := F_k_backtrace.keep Ka2_ (ninS ne_k_b130 (ninS ne_k_t1 nin0))
  replace F_k_detailMessage := F_k_detailMessage.keep Ka2_ (ninS ne_k_b130 (ninS ne_k_t1 nin0))
  replace F_k_file := F_k_file.keep Ka2_ (ninS ne_k_b130 (ninS ne_k_t1 nin0))
  replace F_k_line := F_k_line.keep Ka2_ (ninS ne_k_b130 (ninS ne_k_t1 nin0))
  replace F_k_reason := F_k_reason.keep Ka2_ (ninS ne_k_b130 (ninS ne_k_t1 nin0))
  replace F_f0_value := F_f0_value.keep Ka2_ (ninS ne_f0_b130 (ninS ne_f0_t1 nin0))
  replace F_f0_coder := F_f0_coder.keep Ka2_ (ninS ne_f0_b130 (ninS ne_f0_t1 nin0))
  replace F_r0_value := F_r0_value.keep Ka2_ (ninS ne_r0_b130 (ninS ne_r0_t1 nin0))
  replace F_r0_coder := F_r0_coder.keep Ka2_ (ninS ne_r0_b130 (ninS ne_r0_t1 nin0))
  replace F_a2_coder := F_a2_coder.keep Ka2_ (ninS ne_a2_b130 (ninS ne_a2_t1 nin0))
  replace F_a2_value := F_a2_value.keep Ka2_ (ninS ne_a2_b130 (ninS ne_a2_t1 nin0))
  replace A_tf := A_tf.keep Ka2_ (ninS ne_tf_b130 (ninS ne_tf_t1 nin0))
  replace A_tr := A_tr.keep Ka2_ (ninS ne_tr_b130 (ninS ne_tr_t1 nin0))
  replace A_b2 := A_b2.keep Ka2_ (ninS ne_b2_b130 (ninS ne_b2_t1 nin0))
  replace E_k := E_k.keep Ka2_
  replace E_f0 := E_f0.keep Ka2_
  replace E_r0 := E_r0.keep Ka2_
  replace E_b130 := E_b130.keep Ka2_
  replace E_a2 := E_a2.keep Ka2_
  replace R_ := ext_keep R_ Ka2_ (allS sz_R__b130 (allS sz_R__t1 all0))
  replace K_ := K_.trans Ka2_ (allS (Or.inr sz_K__b130) (allS (Or.inr sz_K__t1) all0))
  have d2 : (e1 ++ [58, 32]).length = fs.length + 2 := by rw [List.length_append, d1]; rfl
  have c2x : (e1 ++ [58, 32]).length + r2.length = 16 := by
    have q : ([58, 32] : List Int32).length = 2 := rfl
    rw [c1x, capN, if_pos (by rw [d1, q]; omega)] at c2
    rw [d2]; rw [d1, q] at c2; omega
  obtain ⟨e2, ge2⟩ : ∃ z, z = e1 ++ [58, 32] := ⟨_, rfl⟩
  rw [← ge2] at Sb2 c2x d2
  have l2 : Lat e2 := by rw [ge2]; exact l1.app (show Lat [58, 32] from (by decide : ∀ c ∈ ([58, 32] : List Int32), ¬ c < 0 ∧ ¬ (255 : Int32) < c))
  refine s_aloadN X (pc' := 18) d7_17 rfl rfl rfl ?_
  refine s_virtual X (pc' := 21) (W := 1) (as' := [(.ref r0)]) (S := [(.ref k)]) (k' := 7) (n' := 152) d7_18 (hw _ (List.mem_of_getElem? (i := 54) rfl)) (hw _ (List.mem_of_getElem? (i := 55) rfl)) (hw _ (List.mem_of_getElem? (i := 57) rfl)) (hw _ (List.mem_of_getElem? (i := 56) rfl)) (nface (hw _ (List.mem_of_getElem? (i := 57) rfl))) (by decide) own_pd20 rfl E_b130 ((sb_sapp l Z a0 hw hEL b130 r0 _ Sb2 E_r0 F_r0_value F_r0_coder A_tr hrs (by omega) (by rw [c2x]; decide) (by rw [c2x]; decide) (by first | decide | omega) (by rw [c2x, capN]; simp only [List.length_nil, List.length_append, List.length_cons] at *; split <;> omega) g_b130 g_t2 ne_tr_t2 O2 P5).payS (by simp) (hw _ (List.mem_of_getElem? (i := 58) rfl)) (hw _ (List.mem_of_getElem? (i := 38) rfl)) hEL (by decide) (by decide)) (Nat.le_of_ble_eq_true rfl) rfl rfl (by decide) (by decide) (by decide) (by decide) rfl (fun T h141 v_ ws_ X hgr_ q142 => ?_)
  obtain ⟨t5, r5, rfl, Ka5_, hT5, Sb5, c5, rfl⟩ := q142
  show Go p e below _ T (mkF m 21 #[.val (.ref k), .val (.ref f0), .val (.ref r0)] [(.ref b130), (.ref k)])
  replace X := X.sub (ws' := [t5, b130, k]) (by simp)
  have ne_k_t5 : k ≠ t5 := hT5.elim (fun q => by rw [q]; exact ne_k_t2) (fun q => Nat.ne_of_lt (Nat.lt_of_lt_of_le E_k.lt q))
  have ne_f0_t5 : f0 ≠ t5 := hT5.elim (fun q => by rw [q]; exact ne_f0_t2) (fun q => Nat.ne_of_lt (Nat.lt_of_lt_of_le E_f0.lt q))
  have ne_r0_t5 : r0 ≠ t5 := hT5.elim (fun q => by rw [q]; exact ne_r0_t2) (fun q => Nat.ne_of_lt (Nat.lt_of_lt_of_le E_r0.lt q))
  have ne_b130_t5 : b130 ≠ t5 := hT5.elim (fun q => by rw [q]; exact ne_b130_t2) (fun q => Nat.ne_of_lt (Nat.lt_of_lt_of_le E_b130.lt q))
  have ne_a2_t5 : a2 ≠ t5 := hT5.elim (fun q => by rw [q]; exact ne_a2_t2) (fun q => Nat.ne_of_lt (Nat.lt_of_lt_of_le E_a2.lt q))
  have ne_tf_t5 : tf ≠ t5 := hT5.elim (fun q => by rw [q]; exact ne_tf_t2) (fun q => Nat.ne_of_lt (Nat.lt_of_lt_of_le A_tf.lt q))
  have ne_tr_t5 : tr ≠ t5 := hT5.elim (fun q => by rw [q]; exact ne_tr_t2) (fun q => Nat.ne_of_lt (Nat.lt_of_lt_of_le A_tr.lt q))
  have ne_b2_t5 : b2 ≠ t5 := hT5.elim (fun q => by rw [q]; exact ne_b2_t2) (fun q => Nat.ne_of_lt (Nat.lt_of_lt_of_le A_b2.lt q))
  have g_t5 : Z.heap.size ≤ t5 := hT5.elim (fun q => by rw [q]; exact g_t2) (fun q => Nat.le_trans g_b130 (Nat.le_trans (Nat.le_of_lt E_b130.lt) q))
  have sz_R__t5 : h.size ≤ t5 := hT5.elim (fun q => by rw [q]; exact sz_R__t2) (fun q => Nat.le_trans R_.1 q)
  have sz_K__t5 := sz_R__t5
  replace F_k_cause := F_k_cause.keep Ka5_ (ninS ne_k_b130 (ninS ne_k_t2 nin0))
  replace F_k_stackTrace := F_k_stackTrace.keep Ka5_ (ninS ne_k_b130 (ninS ne_k_t2 nin0))
  replace F_k_suppressedExceptions := F_k_suppressedExceptions.keep Ka5_ (ninS ne_k_b130 (ninS ne_k_t2 nin0))
  replace F_k_backtrace := F_k_backtrace.keep Ka5_ (ninS ne_k_b130 (ninS ne_k_t2 nin0))
  replace F_k_detailMessage := F_k_detailMessage.keep Ka5_ (ninS ne_k_b130 (ninS ne_k_t2 nin0))
  replace F_k_file := F_k_file.keep Ka5_ (ninS ne_k_b130 (ninS ne_k_t2 nin0))
  replace F_k_line := F_k_line.keep Ka5_ (ninS ne_k_b130 (ninS ne_k_t2 nin0))
  replace F_k_reason := F_k_reason.keep Ka5_ (ninS ne_k_b130 (ninS ne_k_t2 nin0))
  replace F_f0_value := F_f0_value.keep Ka5_ (ninS ne_f0_b130 (ninS ne_f0_t2 nin0))
  replace F_f0_coder := F_f0_coder.keep Ka5_ (ninS ne_f0_b130 (ninS ne_f0_t2 nin0))
  replace F_r0_value := F_r0_value.keep Ka5_ (ninS ne_r0_b130 (ninS ne_r0_t2 nin0))
  replace F_r0_coder := F_r0_coder.keep Ka5_ (ninS ne_r0_b130 (ninS ne_r0_t2 nin0))
  replace F_a2_coder := F_a2_coder.keep Ka5_ (ninS ne_a2_b130 (ninS ne_a2_t2 nin0))
  replace F_a2_value := F_a2_value.keep Ka5_ (ninS ne_a2_b130 (ninS ne_a2_t2 nin0))
  replace A_tf := A_tf.keep Ka5_ (ninS ne_tf_b130 (ninS ne_tf_t2 nin0))
  replace A_tr := A_tr.keep Ka5_ (ninS ne_tr_b130 (ninS ne_tr_t2 nin0))
  replace A_b2 := A_b2.keep Ka5_ (ninS ne_b2_b130 (ninS ne_b2_t2 nin0))
  replace E_k := E_k.keep Ka5_
  replace E_f0 := E_f0.keep Ka5_
  replace E_r0 := E_r0.keep Ka5_
  replace E_b130 := E_b130.keep Ka5_
  replace E_a2 := E_a2.keep Ka5_
  replace R_ := ext_keep R_ Ka5_ (allS sz_R__b130 (allS sz_R__t2 all0))
  replace K_ := K_.trans Ka5_ (allS (Or.inr sz_K__b130) (allS (Or.inr sz_K__t2) all0))
  have d5 : (e2 ++ rs).length = e2.length + rs.length := List.length_append
  have c5x : (e2 ++ rs).length + r5.length ≤ 34 := by
    rw [c2x, capN] at c5
    rw [d5]; split at c5 <;> omega
  refine s_virtual X (pc' := 24) (W := 1) (as' := []) (S := [(.ref k)]) (k' := 9) (n' := 196) d7_21 (hw _ (List.mem_of_getElem? (i := 104) rfl)) (hw _ (List.mem_of_getElem? (i := 105) rfl)) (hw _ (List.mem_of_getElem? (i := 107) rfl)) (hw _ (List.mem_of_getElem? (i := 106) rfl)) (nface (hw _ (List.mem_of_getElem? (i := 107) rfl))) (by decide) own_pd22 rfl E_b130 ((sb_ts l Z a0 hw hEL b130 _ Sb5 (by omega) (by rw [d5]; omega) (l2.app hrs) O2 P5).payS (by simp) (hw _ (List.mem_of_getElem? (i := 108) rfl)) (hw _ (List.mem_of_getElem? (i := 38) rfl)) hEL (by decide) (by decide)) (Nat.le_of_ble_eq_true rfl) rfl rfl (by decide) (by decide) (by decide) (by decide) rfl (fun T h143 v_ ws_ X hgr_ q144 => ?_)
  obtain ⟨mg, rfl, Et_, S_m, rfl⟩ := q144
  show Go p e below _ T (mkF m 24 #[.val (.ref k), .val (.ref f0), .val (.ref r0)] [(.ref mg), (.ref k)])
  replace X := X.sub (ws' := [b130, k]) (by simp)
  replace E_k := E_k.ext Et_
  replace E_f0 := E_f0.ext Et_
  replace E_r0 := E_r0.ext Et_
  replace E_b130 := E_b130.ext Et_
  replace E_a2 := E_a2.ext Et_
  replace F_k_cause := F_k_cause.ext Et_
  replace F_k_stackTrace := F_k_stackTrace.ext Et_
  replace F_k_suppressedExceptions := F_k_suppressedExceptions.ext Et_
  replace F_k_backtrace := F_k_backtrace.ext Et_
  replace F_k_detailMessage := F_k_detailMessage.ext Et_
  replace F_k_file := F_k_file.ext Et_
  replace F_k_line := F_k_line.ext Et_
  replace F_k_reason := F_k_reason.ext Et_
  replace F_f0_value := F_f0_value.ext Et_
  replace F_f0_coder := F_f0_coder.ext Et_
  replace F_r0_value := F_r0_value.ext Et_
  replace F_r0_coder := F_r0_coder.ext Et_
  replace F_a2_coder := F_a2_coder.ext Et_
  replace F_a2_value := F_a2_value.ext Et_
  replace A_tf := A_tf.ext Et_
  replace A_tr := A_tr.ext Et_
  replace A_b2 := A_b2.ext Et_
  replace R_ := ext_trans R_ Et_
  replace K_ := K_.ext Et_
  have E_mg := S_m.exa
  have U0_k := Unt.ext R_ U_k
  refine s_special X (pc' := 27) (W := 0) (as' := [(.ref mg)]) (S := []) (k' := 10) (n' := 2948) d7_24 rfl (hw _ (List.mem_of_getElem? (i := 149) rfl)) (hw _ (List.mem_of_getElem? (i := 150) rfl)) (hw _ (List.mem_of_getElem? (i := 153) rfl)) (by decide) own_pd1 rfl ((own_ex1_ie l Z a0 hw hEL k mg _ g_k E_k U0_k F_k_cause F_k_stackTrace F_k_suppressedExceptions F_k_backtrace F_k_detailMessage Us Ss hlt).payS (by simp) (hw _ (List.mem_of_getElem? (i := 153) rfl)) (hw _ (List.mem_of_getElem? (i := 152) rfl)) hEL (by decide) (by decide)) (Nat.le_of_ble_eq_true rfl) rfl rfl (by decide) (by decide) (by decide) (by decide) rfl (fun T h145 v_ ws_ X hgr_ q146 => ?_)
  obtain ⟨rfl, Kp_, E'_, Ut_, Fm_, Fc_, rfl⟩ := q146
  show Go p e below _ T (mkF m 27 #[.val (.ref k), .val (.ref f0), .val (.ref r0)] [])
  replace X := X.sub (ws' := [k]) (by simp)
  have K_x := keep_of_kp Kp_
  replace F_k_file := Fld.kp Kp_ F_k_file (Or.inr (fun nd hnd => by
    simp only [Jvm.Free.Exc.sixNames, List.mem_cons, List.not_mem_nil, or_false] at hnd
    rcases hnd with rfl | rfl | rfl | rfl | rfl | rfl
    · exact slot_ne (Or.inl (hw _ (List.mem_of_getElem? (i := 162) rfl))) (Or.inr (hw _ (List.mem_of_getElem? (i := 198) rfl))) (t := (.object "java/lang/Throwable")) (t' := (.object "java/lang/String")) (by decide) (by decide) (by decide)
    · exact slot_ne (Or.inl (hw _ (List.mem_of_getElem? (i := 165) rfl))) (Or.inr (hw _ (List.mem_of_getElem? (i := 198) rfl))) (t := (.array (.object "java/lang/StackTraceElement"))) (t' := (.object "java/lang/String")) (by decide) (by decide) (by decide)
    · exact slot_ne (Or.inl (hw _ (List.mem_of_getElem? (i := 168) rfl))) (Or.inr (hw _ (List.mem_of_getElem? (i := 198) rfl))) (t := (.object "java/util/List")) (t' := (.object "java/lang/String")) (by decide) (by decide) (by decide)
    · exact slot_ne (Or.inl (hw _ (List.mem_of_getElem? (i := 193) rfl))) (Or.inr (hw _ (List.mem_of_getElem? (i := 198) rfl))) (t := (.object "java/lang/Object")) (t' := (.object "java/lang/String")) (by decide) (by decide) (by decide)
    · exact slot_ne (Or.inl (hw _ (List.mem_of_getElem? (i := 194) rfl))) (Or.inr (hw _ (List.mem_of_getElem? (i := 198) rfl))) (t := .int) (t' := (.object "java/lang/String")) (by decide) (by decide) (by decide)
    · exact slot_ne (Or.inl (hw _ (List.mem_of_getElem? (i := 192) rfl))) (Or.inr (hw _ (List.mem_of_getElem? (i := 198) rfl))) (t := (.object "java/lang/String")) (t' := (.object "java/lang/String")) (by decide) (by decide) (by decide)))
  replace F_k_line := Fld.kp Kp_ F_k_line (Or.inr (fun nd hnd => by
    simp only [Jvm.Free.Exc.sixNames, List.mem_cons, List.not_mem_nil, or_false] at hnd
    rcases hnd with rfl | rfl | rfl | rfl | rfl | rfl
    · exact slot_ne (Or.inl (hw _ (List.mem_of_getElem? (i := 162) rfl))) (Or.inr (hw _ (List.mem_of_getElem? (i := 200) rfl))) (t := (.object "java/lang/Throwable")) (t' := .int) (by decide) (by decide) (by decide)
    · exact slot_ne (Or.inl (hw _ (List.mem_of_getElem? (i := 165) rfl))) (Or.inr (hw _ (List.mem_of_getElem? (i := 200) rfl))) (t := (.array (.object "java/lang/StackTraceElement"))) (t' := .int) (by decide) (by decide) (by decide)
    · exact slot_ne (Or.inl (hw _ (List.mem_of_getElem? (i := 168) rfl))) (Or.inr (hw _ (List.mem_of_getElem? (i := 200) rfl))) (t := (.object "java/util/List")) (t' := .int) (by decide) (by decide) (by decide)
    · exact slot_ne (Or.inl (hw _ (List.mem_of_getElem? (i := 193) rfl))) (Or.inr (hw _ (List.mem_of_getElem? (i := 200) rfl))) (t := (.object "java/lang/Object")) (t' := .int) (by decide) (by decide) (by decide)
    · exact slot_ne (Or.inl (hw _ (List.mem_of_getElem? (i := 194) rfl))) (Or.inr (hw _ (List.mem_of_getElem? (i := 200) rfl))) (t := .int) (t' := .int) (by decide) (by decide) (by decide)
    · exact slot_ne (Or.inl (hw _ (List.mem_of_getElem? (i := 192) rfl))) (Or.inr (hw _ (List.mem_of_getElem? (i := 200) rfl))) (t := (.object "java/lang/String")) (t' := .int) (by decide) (by decide) (by decide)))
  replace F_k_reason := Fld.kp Kp_ F_k_reason (Or.inr (fun nd hnd => by
    simp only [Jvm.Free.Exc.sixNames, List.mem_cons, List.not_mem_nil, or_false] at hnd
    rcases hnd with rfl | rfl | rfl | rfl | rfl | rfl
    · exact slot_ne (Or.inl (hw _ (List.mem_of_getElem? (i := 162) rfl))) (Or.inr (hw _ (List.mem_of_getElem? (i := 202) rfl))) (t := (.object "java/lang/Throwable")) (t' := (.object "java/lang/String")) (by decide) (by decide) (by decide)
    · exact slot_ne (Or.inl (hw _ (List.mem_of_getElem? (i := 165) rfl))) (Or.inr (hw _ (List.mem_of_getElem? (i := 202) rfl))) (t := (.array (.object "java/lang/StackTraceElement"))) (t' := (.object "java/lang/String")) (by decide) (by decide) (by decide)
    · exact slot_ne (Or.inl (hw _ (List.mem_of_getElem? (i := 168) rfl))) (Or.inr (hw _ (List.mem_of_getElem? (i := 202) rfl))) (t := (.object "java/util/List")) (t' := (.object "java/lang/String")) (by decide) (by decide) (by decide)
    · exact slot_ne (Or.inl (hw _ (List.mem_of_getElem? (i := 193) rfl))) (Or.inr (hw _ (List.mem_of_getElem? (i := 202) rfl))) (t := (.object "java/lang/Object")) (t' := (.object "java/lang/String")) (by decide) (by decide) (by decide)
    · exact slot_ne (Or.inl (hw _ (List.mem_of_getElem? (i := 194) rfl))) (Or.inr (hw _ (List.mem_of_getElem? (i := 202) rfl))) (t := .int) (t' := (.object "java/lang/String")) (by decide) (by decide) (by decide)
    · exact slot_ne (Or.inl (hw _ (List.mem_of_getElem? (i := 192) rfl))) (Or.inr (hw _ (List.mem_of_getElem? (i := 202) rfl))) (t := (.object "java/lang/String")) (t' := (.object "java/lang/String")) (by decide) (by decide) (by decide)))
  replace E_mg := E_mg.keep K_x
  replace K_ := K_.trans K_x (allS (Or.inl (by simp)) all0)
  have E_k := E'_
  have N_k := Ut_
  have F_k_detailMessage := Fm_
  have F_k_cause := Fc_
  refine s_aloadN X (pc' := 28) d7_27 rfl rfl rfl ?_
  refine s_aloadN X (pc' := 29) d7_28 rfl rfl rfl ?_
  refine s_putf X (pc' := 32) d7_29 (hw _ (List.mem_of_getElem? (i := 197) rfl)) Via.refl F_k_file E_k (Or.inr ⟨(hw _ (List.mem_of_getElem? (i := 198) rfl)), rfl, rfl⟩) (hw _ (List.mem_of_getElem? (i := 31) rfl)) (ty := (.object "java/lang/String")) (by decide) rfl rfl g_k (by simp) rfl (fun T h147 X W148 => ?_)
  replace F_k_file := F_k_file.same W148
  replace F_k_line := F_k_line.other W148 (Or.inr (slot_ne (Or.inr (hw _ (List.mem_of_getElem? (i := 200) rfl))) (Or.inr (hw _ (List.mem_of_getElem? (i := 198) rfl))) (t := .int) (t' := (.object "java/lang/String")) (by decide) (by decide) (by decide)))
  replace F_k_reason := F_k_reason.other W148 (Or.inr (slot_ne (Or.inr (hw _ (List.mem_of_getElem? (i := 202) rfl))) (Or.inr (hw _ (List.mem_of_getElem? (i := 198) rfl))) (t := (.object "java/lang/String")) (t' := (.object "java/lang/String")) (by decide) (by decide) (by decide)))
  replace F_k_detailMessage := F_k_detailMessage.other W148 (Or.inr (slot_ne (Or.inl (hw _ (List.mem_of_getElem? (i := 192) rfl))) (Or.inr (hw _ (List.mem_of_getElem? (i := 198) rfl))) (t := (.object "java/lang/String")) (t' := (.object "java/lang/String")) (by decide) (by decide) (by decide)))
  replace F_k_cause := F_k_cause.other W148 (Or.inr (slot_ne (Or.inl (hw _ (List.mem_of_getElem? (i := 162) rfl))) (Or.inr (hw _ (List.mem_of_getElem? (i := 198) rfl))) (t := (.object "java/lang/Throwable")) (t' := (.object "java/lang/String")) (by decide) (by decide) (by decide)))
  replace E_mg := E_mg.wr W148
  replace E_k := E_k.wr W148
  replace N_k := Unt.wr W148 N_k
  replace K_ := K_.wr W148 (Or.inl (by simp))
  refine s_aloadN X (pc' := 33) d7_32 rfl rfl rfl ?_
  refine s_iconst X (pc' := 34) d7_33 (v := (0 : Int32)) rfl rfl ?_
  refine s_putf X (pc' := 37) d7_34 (hw _ (List.mem_of_getElem? (i := 199) rfl)) Via.refl F_k_line E_k (Or.inr ⟨(hw _ (List.mem_of_getElem? (i := 200) rfl)), rfl, rfl⟩) (hw _ (List.mem_of_getElem? (i := 31) rfl)) (ty := .int) (by decide) rfl rfl g_k (by simp) rfl (fun T h149 X W150 => ?_)
  replace F_k_file := F_k_file.other W150 (Or.inr (slot_ne (Or.inr (hw _ (List.mem_of_getElem? (i := 198) rfl))) (Or.inr (hw _ (List.mem_of_getElem? (i := 200) rfl))) (t := (.object "java/lang/String")) (t' := .int) (by decide) (by decide) (by decide)))
  replace F_k_line := F_k_line.same W150
  replace F_k_reason := F_k_reason.other W150 (Or.inr (slot_ne (Or.inr (hw _ (List.mem_of_getElem? (i := 202) rfl))) (Or.inr (hw _ (List.mem_of_getElem? (i := 200) rfl))) (t := (.object "java/lang/String")) (t' := .int) (by decide) (by decide) (by decide)))
  replace F_k_detailMessage := F_k_detailMessage.other W150 (Or.inr (slot_ne (Or.inl (hw _ (List.mem_of_getElem? (i := 192) rfl))) (Or.inr (hw _ (List.mem_of_getElem? (i := 200) rfl))) (t := (.object "java/lang/String")) (t' := .int) (by decide) (by decide) (by decide)))
  replace F_k_cause := F_k_cause.other W150 (Or.inr (slot_ne (Or.inl (hw _ (List.mem_of_getElem? (i := 162) rfl))) (Or.inr (hw _ (List.mem_of_getElem? (i := 200) rfl))) (t := (.object "java/lang/Throwable")) (t' := .int) (by decide) (by decide) (by decide)))
  replace E_mg := E_mg.wr W150
  replace E_k := E_k.wr W150
  replace N_k := Unt.wr W150 N_k
  replace K_ := K_.wr W150 (Or.inl (by simp))
  refine s_aloadN X (pc' := 38) d7_37 rfl rfl rfl ?_
  refine s_aloadN X (pc' := 39) d7_38 rfl rfl rfl ?_
  refine s_putf X (pc' := 42) d7_39 (hw _ (List.mem_of_getElem? (i := 201) rfl)) Via.refl F_k_reason E_k (Or.inr ⟨(hw _ (List.mem_of_getElem? (i := 202) rfl)), rfl, rfl⟩) (hw _ (List.mem_of_getElem? (i := 31) rfl)) (ty := (.object "java/lang/String")) (by decide) rfl rfl g_k (by simp) rfl (fun T h151 X W152 => ?_)
  replace F_k_file := F_k_file.other W152 (Or.inr (slot_ne (Or.inr (hw _ (List.mem_of_getElem? (i := 198) rfl))) (Or.inr (hw _ (List.mem_of_getElem? (i := 202) rfl))) (t := (.object "java/lang/String")) (t' := (.object "java/lang/String")) (by decide) (by decide) (by decide)))
  replace F_k_line := F_k_line.other W152 (Or.inr (slot_ne (Or.inr (hw _ (List.mem_of_getElem? (i := 200) rfl))) (Or.inr (hw _ (List.mem_of_getElem? (i := 202) rfl))) (t := .int) (t' := (.object "java/lang/String")) (by decide) (by decide) (by decide)))
  replace F_k_reason := F_k_reason.same W152
  replace F_k_detailMessage := F_k_detailMessage.other W152 (Or.inr (slot_ne (Or.inl (hw _ (List.mem_of_getElem? (i := 192) rfl))) (Or.inr (hw _ (List.mem_of_getElem? (i := 202) rfl))) (t := (.object "java/lang/String")) (t' := (.object "java/lang/String")) (by decide) (by decide) (by decide)))
  replace F_k_cause := F_k_cause.other W152 (Or.inr (slot_ne (Or.inl (hw _ (List.mem_of_getElem? (i := 162) rfl))) (Or.inr (hw _ (List.mem_of_getElem? (i := 202) rfl))) (t := (.object "java/lang/Throwable")) (t' := (.object "java/lang/String")) (by decide) (by decide) (by decide)))
  replace E_mg := E_mg.wr W152
  replace E_k := E_k.wr W152
  replace N_k := Unt.wr W152 N_k
  replace K_ := K_.wr W152 (Or.inl (by simp))
  exact s_ret X hEL (ws' := []) d7_42 (by decide) (by decide) (fun x q => by simp at q) ⟨mg, rfl, K_, E_k, F_k_file, F_k_line, F_k_reason, F_k_detailMessage, E_mg, rfl⟩
theorem d59_0 : decode jdk_2649_method_3_code 0 = .ok (.aload_n 0, 1) := by decide +kernel
theorem d59_1 : decode jdk_2649_method_3_code 1 = .ok (.invokespecial 1, 3) := by decide +kernel
theorem d59_4 : decode jdk_2649_method_3_code 4 = .ok (.aload_n 0, 1) := by decide +kernel
theorem d59_5 : decode jdk_2649_method_3_code 5 = .ok (.iconst 1, 1) := by decide +kernel
theorem d59_6 : decode jdk_2649_method_3_code 6 = .ok (.putfield 7, 3) := by decide +kernel
theorem d59_9 : decode jdk_2649_method_3_code 9 = .ok (.aload_n 0, 1) := by decide +kernel
theorem d59_10 : decode jdk_2649_method_3_code 10 = .ok (.iload_n 1, 1) := by decide +kernel
theorem d59_11 : decode jdk_2649_method_3_code 11 = .ok (.putfield 13, 3) := by decide +kernel
theorem d59_14 : decode jdk_2649_method_3_code 14 = .ok (.return_, 1) := by decide +kernel
theorem ef_own_oin (m : MethodId) (k : Addr) (x : Int32) : entryFrame m #[(.ref k), (.int x)] 2 = mkF m 0 #[.val (.ref k), .val (.int x)] [] := by first | (simp [entryFrame, mkF, argsToLocals, Value.category]; done) | rfl
set_option maxRecDepth 65536 in
set_option maxHeartbeats 40000000 in
theorem own_oin (l : Launch) (Z : State) (a0 : Array Value) (hw : ∀ d ∈ tables_1, d.before a0 Z = true) (hEL : EW Z a0 consts_1) (k : Addr) (x : Int32) (h : Heap) (g_k : Z.heap.size ≤ k) (E_k : Exa Z h k "java/util/OptionalInt") (F_k_isPresent : Fld Z h k "java/util/OptionalInt" "isPresent" "Z" (.int (0 : Int32))) (F_k_value : Fld Z h k "java/util/OptionalInt" "value" "I" (.int (0 : Int32))) :
    Con l Z consts_1 True (⟨"java/util/OptionalInt", "<init>", "(I)V"⟩ : MethodName) jdk_2649_method_3_code 2 none ({ frames := 1, cells := 0, slots := 0, locals := 12 } : Room) [k] #[(.ref k), (.int x)] h (fun v h' ws' => v = none ∧ Keep h h' [k] ∧ Exa Z h' k "java/util/OptionalInt" ∧ Fld Z h' k "java/util/OptionalInt" "isPresent" "Z" (.int (1 : Int32)) ∧ Fld Z h' k "java/util/OptionalInt" "value" "I" (.int x) ∧ ws' = []) := by
  refine Con.intro own_pn32 (fun p e s m below meth c T X => ?_)
  rw [ef_own_oin m k x]
  have K_ : Keep h h [k] := Keep.refl _ _
  refine s_aloadN X (pc' := 1) d59_0 rfl rfl rfl ?_
  refine s_initO X (pc' := 4) (W := 0) d59_1 (hw _ (List.mem_of_getElem? (i := 369) rfl)) (hw _ (List.mem_of_getElem? (i := 12) rfl)) (b' := object_method_1_code) rfl (hw _ (List.mem_of_getElem? (i := 13) rfl)) (Nat.le_of_ble_eq_true rfl) (by decide) (by decide) rfl rfl (fun T X => ?_)
  refine s_aloadN X (pc' := 5) d59_4 rfl rfl rfl ?_
  refine s_iconst X (pc' := 6) d59_5 (v := (1 : Int32)) rfl rfl ?_
  refine s_putf X (pc' := 9) d59_6 (hw _ (List.mem_of_getElem? (i := 335) rfl)) Via.refl F_k_isPresent E_k (Or.inr ⟨(hw _ (List.mem_of_getElem? (i := 336) rfl)), rfl, rfl⟩) (hw _ (List.mem_of_getElem? (i := 364) rfl)) (ty := .boolean) (by decide) rfl rfl g_k (by simp) rfl (fun T h153 X W154 => ?_)
  replace F_k_isPresent := F_k_isPresent.same W154
  replace F_k_value := F_k_value.other W154 (Or.inr (slot_ne (Or.inr (hw _ (List.mem_of_getElem? (i := 371) rfl))) (Or.inr (hw _ (List.mem_of_getElem? (i := 336) rfl))) (t := .int) (t' := .boolean) (by decide) (by decide) (by decide)))
  replace E_k := E_k.wr W154
  replace K_ := K_.wr W154 (Or.inl (by simp))
  refine s_aloadN X (pc' := 10) d59_9 rfl rfl rfl ?_
  refine s_iloadN X (pc' := 11) d59_10 rfl rfl ?_
  refine s_putf X (pc' := 14) d59_11 (hw _ (List.mem_of_getElem? (i := 370) rfl)) Via.refl F_k_value E_k (Or.inr ⟨(hw _ (List.mem_of_getElem? (i := 371) rfl)), rfl, rfl⟩) (hw _ (List.mem_of_getElem? (i := 364) rfl)) (ty := .int) (by decide) rfl rfl g_k (by simp) rfl (fun T h155 X W156 => ?_)
  replace F_k_isPresent := F_k_isPresent.other W156 (Or.inr (slot_ne (Or.inr (hw _ (List.mem_of_getElem? (i := 336) rfl))) (Or.inr (hw _ (List.mem_of_getElem? (i := 371) rfl))) (t := .boolean) (t' := .int) (by decide) (by decide) (by decide)))
  replace F_k_value := F_k_value.same W156
  replace E_k := E_k.wr W156
  replace K_ := K_.wr W156 (Or.inl (by simp))
  exact s_ret X hEL (ws' := []) d59_14 (by decide) (by decide) (fun x q => by simp at q) ⟨rfl, K_, E_k, F_k_isPresent, F_k_value, rfl⟩
theorem d58_0 : decode jdk_2649_method_4_code 0 = .ok (.new 8, 3) := by decide +kernel
theorem d58_3 : decode jdk_2649_method_4_code 3 = .ok (.dup, 1) := by decide +kernel
theorem d58_4 : decode jdk_2649_method_4_code 4 = .ok (.iload_n 0, 1) := by decide +kernel
theorem d58_5 : decode jdk_2649_method_4_code 5 = .ok (.invokespecial 21, 3) := by decide +kernel
theorem d58_8 : decode jdk_2649_method_4_code 8 = .ok (.areturn, 1) := by decide +kernel
theorem ef_own_oof (m : MethodId) (x : Int32) : entryFrame m #[(.int x)] 1 = mkF m 0 #[.val (.int x)] [] := by first | (simp [entryFrame, mkF, argsToLocals, Value.category]; done) | rfl
set_option maxRecDepth 65536 in
set_option maxHeartbeats 40000000 in
theorem own_oof (l : Launch) (Z : State) (a0 : Array Value) (hw : ∀ d ∈ tables_1, d.before a0 Z = true) (hEL : EW Z a0 consts_1) (x : Int32) (h : Heap)  :
    Con l Z consts_1 True (⟨"java/util/OptionalInt", "of", "(I)Ljava/util/OptionalInt;"⟩ : MethodName) jdk_2649_method_4_code 1 (some (.object "java/util/OptionalInt")) ({ frames := 2, cells := 1, slots := 2, locals := 26 } : Room) [] #[(.int x)] h (fun v h' ws' => ∃ o, v = some (.ref o) ∧ Ext h h' ∧ Exa Z h' o "java/util/OptionalInt" ∧ Fld Z h' o "java/util/OptionalInt" "isPresent" "Z" (.int (1 : Int32)) ∧ Fld Z h' o "java/util/OptionalInt" "value" "I" (.int x) ∧ ws' = []) := by
  refine Con.intro own_pn33 (fun p e s m below meth c T X => ?_)
  rw [ef_own_oof m x]
  have R_ : Ext h h := ext_refl _
  refine s_new X (pc' := 3) (k' := 1) (n' := 2) d58_0 (hw _ (List.mem_of_getElem? (i := 363) rfl)) (hw _ (List.mem_of_getElem? (i := 364) rfl)) (hw _ (List.mem_of_getElem? (i := 327) rfl)) (by decide) (by decide) (by decide) (by decide) rfl (fun T h158 b157 gb_b157 X' E159 E_b157 D_b157 U_b157 => ?_)
  have g_b157 : Z.heap.size ≤ b157 := by rw [gb_b157]; exact X.lt
  have sz_R__b157 : h.size ≤ b157 := by rw [gb_b157]; exact R_.1
  replace R_ := ext_trans R_ E159
  replace X := X'
  have F_b157_isPresent : Fld Z h158 b157 "java/util/OptionalInt" "isPresent" "Z" (.int (0 : Int32)) := D_b157 (Or.inr (hw _ (List.mem_of_getElem? (i := 336) rfl))) (ty := .boolean) (by decide)
  have F_b157_value : Fld Z h158 b157 "java/util/OptionalInt" "value" "I" (.int (0 : Int32)) := D_b157 (Or.inr (hw _ (List.mem_of_getElem? (i := 371) rfl))) (ty := .int) (by decide)
  refine s_dup X (pc' := 4) d58_3 rfl rfl ?_
  refine s_iloadN X (pc' := 5) d58_4 rfl rfl ?_
  refine s_special X (pc' := 8) (W := 1) (as' := [(.int x)]) (S := [(.ref b157)]) (k' := 1) (n' := 2) d58_5 rfl (hw _ (List.mem_of_getElem? (i := 365) rfl)) (hw _ (List.mem_of_getElem? (i := 366) rfl)) (hw _ (List.mem_of_getElem? (i := 368) rfl)) (by decide) own_pd8 rfl ((own_oin l Z a0 hw hEL b157 x _ g_b157 E_b157 F_b157_isPresent F_b157_value).payS (by simp) (hw _ (List.mem_of_getElem? (i := 368) rfl)) (hw _ (List.mem_of_getElem? (i := 327) rfl)) hEL (by decide) (by decide)) (Nat.le_of_ble_eq_true rfl) rfl rfl (by decide) (by decide) (by decide) (by decide) rfl (fun T h160 v_ ws_ X hgr_ q161 => ?_)
  obtain ⟨rfl, K_, E'_, F1_, F2_, rfl⟩ := q161
  show Go p e below _ T (mkF m 8 #[.val (.int x)] [(.ref b157)])
  replace X := X.sub (ws' := [b157]) (by simp)
  replace R_ := ext_keep R_ K_ (allS sz_R__b157 all0)
  exact s_aret X hEL (ws' := []) (t := (.object "java/util/OptionalInt")) d58_8 rfl rfl rfl rfl (by decide) (by decide) (fun x q => by simp at q) ⟨b157, rfl, R_, E'_, F1_, F2_, rfl⟩
theorem d51_0 : decode jdk_2649_method_2_code 0 = .ok (.getstatic 17, 3) := by decide +kernel
theorem d51_3 : decode jdk_2649_method_2_code 3 = .ok (.areturn, 1) := by decide +kernel
theorem ef_own_oem (m : MethodId)  : entryFrame m #[] 0 = mkF m 0 #[] [] := by first | (simp [entryFrame, mkF, argsToLocals, Value.category]; done) | rfl
set_option maxRecDepth 65536 in
set_option maxHeartbeats 40000000 in
theorem own_oem (l : Launch) (Z : State) (a0 : Array Value) (hw : ∀ d ∈ tables_1, d.before a0 Z = true) (hEL : EW Z a0 consts_1)  (h : Heap) {oe : Addr} (Oo : Sta Z Z.heap "java/util/OptionalInt" "EMPTY" "Ljava/util/OptionalInt;" (.ref oe)) (Xo : Exa Z Z.heap oe "java/util/OptionalInt") (Fo : Fld Z Z.heap oe "java/util/OptionalInt" "isPresent" "Z" (.int (0 : Int32))) :
    Con l Z consts_1 True (⟨"java/util/OptionalInt", "empty", "()Ljava/util/OptionalInt;"⟩ : MethodName) jdk_2649_method_2_code 0 (some (.object "java/util/OptionalInt")) ({ frames := 0, cells := 0, slots := 0, locals := 0 } : Room) [] #[] h (fun v h' ws' => v = some (.ref oe) ∧ h' = h ∧ ws' = []) := by
  refine Con.intro own_pn34 (fun p e s m below meth c T X => ?_)
  rw [ef_own_oem m ]
  refine s_gets X (pc' := 3) d51_0 (hw _ (List.mem_of_getElem? (i := 329) rfl)) Via.refl Oo rfl (fun T X => ?_)
  exact s_aret X hEL (ws' := []) (t := (.object "java/util/OptionalInt")) d51_3 rfl rfl rfl rfl (by decide) (by decide) (fun x q => by simp at q) ⟨rfl, rfl, rfl⟩
theorem d52_0 : decode jdk_2649_method_6_code 0 = .ok (.aload_n 0, 1) := by decide +kernel
theorem d52_1 : decode jdk_2649_method_6_code 1 = .ok (.getfield 7, 3) := by decide +kernel
theorem d52_4 : decode jdk_2649_method_6_code 4 = .ok (.ireturn, 1) := by decide +kernel
theorem d60_0 : decode jdk_2649_method_5_code 0 = .ok (.aload_n 0, 1) := by decide +kernel
theorem d60_1 : decode jdk_2649_method_5_code 1 = .ok (.getfield 7, 3) := by decide +kernel
theorem d60_4 : decode jdk_2649_method_5_code 4 = .ok (.ifCond .ne 13, 3) := by decide +kernel
theorem d60_17 : decode jdk_2649_method_5_code 17 = .ok (.aload_n 0, 1) := by decide +kernel
theorem d60_18 : decode jdk_2649_method_5_code 18 = .ok (.getfield 13, 3) := by decide +kernel
theorem d60_21 : decode jdk_2649_method_5_code 21 = .ok (.ireturn, 1) := by decide +kernel
theorem ef_own_oip0 (m : MethodId) (k : Addr) : entryFrame m #[(.ref k)] 1 = mkF m 0 #[.val (.ref k)] [] := by first | (simp [entryFrame, mkF, argsToLocals, Value.category]; done) | rfl
set_option maxRecDepth 65536 in
set_option maxHeartbeats 40000000 in
theorem own_oip0 (l : Launch) (Z : State) (a0 : Array Value) (hw : ∀ d ∈ tables_1, d.before a0 Z = true) (hEL : EW Z a0 consts_1) (k : Addr) (h : Heap) (F_k_isPresent : Fld Z h k "java/util/OptionalInt" "isPresent" "Z" (.int (0 : Int32))) :
    Con l Z consts_1 True (⟨"java/util/OptionalInt", "isPresent", "()Z"⟩ : MethodName) jdk_2649_method_6_code 1 (some .boolean) ({ frames := 0, cells := 0, slots := 0, locals := 0 } : Room) [] #[(.ref k)] h (fun v h' ws' => v = some (.int ((0 : Int32))) ∧ h' = h ∧ ws' = []) := by
  refine Con.intro own_pn35 (fun p e s m below meth c T X => ?_)
  rw [ef_own_oip0 m k]
  refine s_aloadN X (pc' := 1) d52_0 rfl rfl rfl ?_
  refine s_getf X (pc' := 4) d52_1 (hw _ (List.mem_of_getElem? (i := 335) rfl)) Via.refl F_k_isPresent rfl (fun T X => ?_)
  exact s_iretN X hEL (ws' := []) (t := .boolean) d52_4 rfl (by simp) (by decide) (by decide) (fun x q => by simp at q) ⟨rfl, rfl, rfl⟩
theorem ef_own_oip1 (m : MethodId) (k : Addr) : entryFrame m #[(.ref k)] 1 = mkF m 0 #[.val (.ref k)] [] := by first | (simp [entryFrame, mkF, argsToLocals, Value.category]; done) | rfl
set_option maxRecDepth 65536 in
set_option maxHeartbeats 40000000 in
theorem own_oip1 (l : Launch) (Z : State) (a0 : Array Value) (hw : ∀ d ∈ tables_1, d.before a0 Z = true) (hEL : EW Z a0 consts_1) (k : Addr) (h : Heap) (F_k_isPresent : Fld Z h k "java/util/OptionalInt" "isPresent" "Z" (.int (1 : Int32))) :
    Con l Z consts_1 True (⟨"java/util/OptionalInt", "isPresent", "()Z"⟩ : MethodName) jdk_2649_method_6_code 1 (some .boolean) ({ frames := 0, cells := 0, slots := 0, locals := 0 } : Room) [] #[(.ref k)] h (fun v h' ws' => v = some (.int ((1 : Int32))) ∧ h' = h ∧ ws' = []) := by
  refine Con.intro own_pn35 (fun p e s m below meth c T X => ?_)
  rw [ef_own_oip1 m k]
  refine s_aloadN X (pc' := 1) d52_0 rfl rfl rfl ?_
  refine s_getf X (pc' := 4) d52_1 (hw _ (List.mem_of_getElem? (i := 335) rfl)) Via.refl F_k_isPresent rfl (fun T X => ?_)
  exact s_iretN X hEL (ws' := []) (t := .boolean) d52_4 rfl (by simp) (by decide) (by decide) (fun x q => by simp at q) ⟨rfl, rfl, rfl⟩
theorem ef_own_oga (m : MethodId) (k : Addr) : entryFrame m #[(.ref k)] 1 = mkF m 0 #[.val (.ref k)] [] := by first | (simp [entryFrame, mkF, argsToLocals, Value.category]; done) | rfl
set_option maxRecDepth 65536 in
set_option maxHeartbeats 40000000 in
theorem own_oga (l : Launch) (Z : State) (a0 : Array Value) (hw : ∀ d ∈ tables_1, d.before a0 Z = true) (hEL : EW Z a0 consts_1) (k : Addr) (h : Heap) {x : Int32} (F_k_isPresent : Fld Z h k "java/util/OptionalInt" "isPresent" "Z" (.int (1 : Int32))) (F_k_value : Fld Z h k "java/util/OptionalInt" "value" "I" (.int x)) :
    Con l Z consts_1 True (⟨"java/util/OptionalInt", "getAsInt", "()I"⟩ : MethodName) jdk_2649_method_5_code 1 (some .int) ({ frames := 0, cells := 0, slots := 0, locals := 0 } : Room) [] #[(.ref k)] h (fun v h' ws' => v = some (.int (x)) ∧ h' = h ∧ ws' = []) := by
  refine Con.intro own_pn36 (fun p e s m below meth c T X => ?_)
  rw [ef_own_oga m k]
  refine s_aloadN X (pc' := 1) d60_0 rfl rfl rfl ?_
  refine s_getf X (pc' := 4) d60_1 (hw _ (List.mem_of_getElem? (i := 335) rfl)) Via.refl F_k_isPresent rfl (fun T X => ?_)
  refine s_ifT X (pc' := 17) d60_4 (show ¬ (1 : Int32) = (0 : Int32) by decide) (by decide) (by decide) ?_
  refine s_aloadN X (pc' := 18) d60_17 rfl rfl rfl ?_
  refine s_getf X (pc' := 21) d60_18 (hw _ (List.mem_of_getElem? (i := 370) rfl)) Via.refl F_k_value rfl (fun T X => ?_)
  exact s_iret X hEL (ws' := []) d60_21 (by decide) (by decide) (fun x q => by simp at q) ⟨rfl, rfl, rfl⟩
theorem d50_0 : decode prog_18_method_4_code 0 = .ok (.aload_n 0, 1) := by decide +kernel
theorem d50_1 : decode prog_18_method_4_code 1 = .ok (.getfield 33, 3) := by decide +kernel
theorem d50_4 : decode prog_18_method_4_code 4 = .ok (.ifCond .ne 9, 3) := by decide +kernel
theorem d50_7 : decode prog_18_method_4_code 7 = .ok (.invokestatic 40, 3) := by decide +kernel
theorem d50_10 : decode prog_18_method_4_code 10 = .ok (.goto 10, 3) := by decide +kernel
theorem d50_13 : decode prog_18_method_4_code 13 = .ok (.aload_n 0, 1) := by decide +kernel
theorem d50_14 : decode prog_18_method_4_code 14 = .ok (.getfield 33, 3) := by decide +kernel
theorem d50_17 : decode prog_18_method_4_code 17 = .ok (.invokestatic 46, 3) := by decide +kernel
theorem d50_20 : decode prog_18_method_4_code 20 = .ok (.areturn, 1) := by decide +kernel
theorem ef_own_line0 (m : MethodId) (k : Addr) : entryFrame m #[(.ref k)] 1 = mkF m 0 #[.val (.ref k)] [] := by first | (simp [entryFrame, mkF, argsToLocals, Value.category]; done) | rfl
set_option maxRecDepth 65536 in
set_option maxHeartbeats 40000000 in
theorem own_line0 (l : Launch) (Z : State) (a0 : Array Value) (hw : ∀ d ∈ tables_1, d.before a0 Z = true) (hEL : EW Z a0 consts_1) (k : Addr) (h : Heap) {oe : Addr} (F_k_line : Fld Z h k "com/example/vestwright/vestwright/input/InputException" "line" "I" (.int (0 : Int32))) (Oo : Sta Z Z.heap "java/util/OptionalInt" "EMPTY" "Ljava/util/OptionalInt;" (.ref oe)) (Xo : Exa Z Z.heap oe "java/util/OptionalInt") (Fo : Fld Z Z.heap oe "java/util/OptionalInt" "isPresent" "Z" (.int (0 : Int32))) :
    Con l Z consts_1 True (⟨"com/example/vestwright/vestwright/input/InputException", "line", "()Ljava/util/OptionalInt;"⟩ : MethodName) prog_18_method_4_code 1 (some (.object "java/util/OptionalInt")) ({ frames := 1, cells := 0, slots := 0, locals := 11 } : Room) [] #[(.ref k)] h (fun v h' ws' => v = some (.ref oe) ∧ h' = h ∧ ws' = []) := by
  refine Con.intro own_pn37 (fun p e s m below meth c T X => ?_)
  rw [ef_own_line0 m k]
  refine s_aloadN X (pc' := 1) d50_0 rfl rfl rfl ?_
  refine s_getf X (pc' := 4) d50_1 (hw _ (List.mem_of_getElem? (i := 199) rfl)) Via.refl F_k_line rfl (fun T X => ?_)
  refine s_ifF X (pc' := 7) d50_4 (show (0 : Int32) = (0 : Int32) by decide) rfl ?_
  refine s_static X (pc' := 10) (W := 0) (as' := []) (S := []) (k' := 0) (n' := 0) d50_7 (hw _ (List.mem_of_getElem? (i := 325) rfl)) (hw _ (List.mem_of_getElem? (i := 326) rfl)) (hw _ (List.mem_of_getElem? (i := 327) rfl)) (hw _ (List.mem_of_getElem? (i := 328) rfl)) (by decide) own_pd23 rfl ((own_oem l Z a0 hw hEL _ Oo Xo Fo).payS (by simp) (hw _ (List.mem_of_getElem? (i := 328) rfl)) (hw _ (List.mem_of_getElem? (i := 327) rfl)) hEL (by decide) (by decide)) (Nat.le_of_ble_eq_true rfl) rfl rfl (by decide) (by decide) (by decide) (by decide) rfl (fun T h162 v_ ws_ X hgr_ q163 => ?_)
  obtain ⟨rfl, e_, rfl⟩ := q163
  rw [e_] at X
  show Go p e below _ T (mkF m 10 #[.val (.ref k)] [(.ref oe)])
  replace X := X.sub (ws' := []) (by simp)
  refine s_goto X (pc' := 20) d50_10 (by decide) (by decide) ?_
  exact s_aret X hEL (ws' := []) (t := (.object "java/util/OptionalInt")) d50_20 rfl rfl rfl rfl (by decide) (by decide) (fun x q => by simp at q) ⟨rfl, rfl, rfl⟩
theorem ef_own_line1 (m : MethodId) (k : Addr) (_x : Int32) : entryFrame m #[(.ref k)] 1 = mkF m 0 #[.val (.ref k)] [] := by first | (simp [entryFrame, mkF, argsToLocals, Value.category]; done) | rfl
set_option maxRecDepth 65536 in
set_option maxHeartbeats 40000000 in
theorem own_line1 (l : Launch) (Z : State) (a0 : Array Value) (hw : ∀ d ∈ tables_1, d.before a0 Z = true) (hEL : EW Z a0 consts_1) (k : Addr) (x : Int32) (h : Heap) (F_k_line : Fld Z h k "com/example/vestwright/vestwright/input/InputException" "line" "I" (.int x)) (hx : ¬ x = (0 : Int32)) :
    Con l Z consts_1 True (⟨"com/example/vestwright/vestwright/input/InputException", "line", "()Ljava/util/OptionalInt;"⟩ : MethodName) prog_18_method_4_code 1 (some (.object "java/util/OptionalInt")) ({ frames := 3, cells := 1, slots := 2, locals := 38 } : Room) [] #[(.ref k)] h (fun v h' ws' => ∃ o, v = some (.ref o) ∧ Ext h h' ∧ Exa Z h' o "java/util/OptionalInt" ∧ Fld Z h' o "java/util/OptionalInt" "isPresent" "Z" (.int (1 : Int32)) ∧ Fld Z h' o "java/util/OptionalInt" "value" "I" (.int x) ∧ ws' = []) := by
  refine Con.intro own_pn37 (fun p e s m below meth c T X => ?_)
  rw [ef_own_line1 m k x]
  refine s_aloadN X (pc' := 1) d50_0 rfl rfl rfl ?_
  refine s_getf X (pc' := 4) d50_1 (hw _ (List.mem_of_getElem? (i := 199) rfl)) Via.refl F_k_line rfl (fun T X => ?_)
  refine s_ifT X (pc' := 13) d50_4 hx (by decide) (by decide) ?_
  refine s_aloadN X (pc' := 14) d50_13 rfl rfl rfl ?_
  refine s_getf X (pc' := 17) d50_14 (hw _ (List.mem_of_getElem? (i := 199) rfl)) Via.refl F_k_line rfl (fun T X => ?_)
  refine s_static X (pc' := 20) (W := 0) (as' := [(.int x)]) (S := []) (k' := 1) (n' := 2) d50_17 (hw _ (List.mem_of_getElem? (i := 360) rfl)) (hw _ (List.mem_of_getElem? (i := 361) rfl)) (hw _ (List.mem_of_getElem? (i := 327) rfl)) (hw _ (List.mem_of_getElem? (i := 362) rfl)) (by decide) own_pd24 rfl ((own_oof l Z a0 hw hEL x _).payS (by simp) (hw _ (List.mem_of_getElem? (i := 362) rfl)) (hw _ (List.mem_of_getElem? (i := 327) rfl)) hEL (by decide) (by decide)) (Nat.le_of_ble_eq_true rfl) rfl rfl (by decide) (by decide) (by decide) (by decide) rfl (fun T h164 v_ ws_ X hgr_ q165 => ?_)
  obtain ⟨o, rfl, E_, E_o, F1_, F2_, rfl⟩ := q165
  show Go p e below _ T (mkF m 20 #[.val (.ref k)] [(.ref o)])
  replace X := X.sub (ws' := []) (by simp)
  exact s_aret X hEL (ws' := []) (t := (.object "java/util/OptionalInt")) d50_20 rfl rfl rfl rfl (by decide) (by decide) (fun x q => by simp at q) ⟨o, rfl, E_, E_o, F1_, F2_, rfl⟩
theorem own_xw_rr {Z : State} {a0 : Array Value} (hw : ∀ d ∈ tables_1, d.before a0 Z = true) : ∀ d ∈ excW "com/example/vestwright/vestwright/run/RunRefusedException", d.before a0 Z = true := fun d hd => hw d ((by decide +kernel : ∀ d ∈ excW "com/example/vestwright/vestwright/run/RunRefusedException", d ∈ tables_1) d hd)
theorem d36_0 : decode jdk_78_method_3_code 0 = .ok (.aload_n 0, 1) := by decide +kernel
theorem d36_1 : decode jdk_78_method_3_code 1 = .ok (.invokespecial 1, 3) := by decide +kernel
theorem d36_4 : decode jdk_78_method_3_code 4 = .ok (.aload_n 0, 1) := by decide +kernel
theorem d36_5 : decode jdk_78_method_3_code 5 = .ok (.aload_n 0, 1) := by decide +kernel
theorem d36_6 : decode jdk_78_method_3_code 6 = .ok (.putfield 7, 3) := by decide +kernel
theorem d36_9 : decode jdk_78_method_3_code 9 = .ok (.aload_n 0, 1) := by decide +kernel
theorem d36_10 : decode jdk_78_method_3_code 10 = .ok (.getstatic 13, 3) := by decide +kernel
theorem d36_13 : decode jdk_78_method_3_code 13 = .ok (.putfield 17, 3) := by decide +kernel
theorem d36_16 : decode jdk_78_method_3_code 16 = .ok (.aload_n 0, 1) := by decide +kernel
theorem d36_17 : decode jdk_78_method_3_code 17 = .ok (.getstatic 20, 3) := by decide +kernel
theorem d36_20 : decode jdk_78_method_3_code 20 = .ok (.putfield 24, 3) := by decide +kernel
theorem d36_23 : decode jdk_78_method_3_code 23 = .ok (.aload_n 0, 1) := by decide +kernel
theorem d36_24 : decode jdk_78_method_3_code 24 = .ok (.invokevirtual 27, 3) := by decide +kernel
theorem d36_27 : decode jdk_78_method_3_code 27 = .ok (.pop, 1) := by decide +kernel
theorem d36_28 : decode jdk_78_method_3_code 28 = .ok (.aload_n 0, 1) := by decide +kernel
theorem d36_29 : decode jdk_78_method_3_code 29 = .ok (.aload_n 1, 1) := by decide +kernel
theorem d36_30 : decode jdk_78_method_3_code 30 = .ok (.putfield 31, 3) := by decide +kernel
theorem d36_33 : decode jdk_78_method_3_code 33 = .ok (.aload_n 0, 1) := by decide +kernel
theorem d36_34 : decode jdk_78_method_3_code 34 = .ok (.aload_n 2, 1) := by decide +kernel
theorem d36_35 : decode jdk_78_method_3_code 35 = .ok (.putfield 7, 3) := by decide +kernel
theorem d36_38 : decode jdk_78_method_3_code 38 = .ok (.return_, 1) := by decide +kernel
theorem d35_0 : decode jdk_59_method_3_code 0 = .ok (.aload_n 0, 1) := by decide +kernel
theorem d35_1 : decode jdk_59_method_3_code 1 = .ok (.aload_n 1, 1) := by decide +kernel
theorem d35_2 : decode jdk_59_method_3_code 2 = .ok (.aload_n 2, 1) := by decide +kernel
theorem d35_3 : decode jdk_59_method_3_code 3 = .ok (.invokespecial 10, 3) := by decide +kernel
theorem d35_6 : decode jdk_59_method_3_code 6 = .ok (.return_, 1) := by decide +kernel
theorem ef_own_th2_rr (m : MethodId) (k mg cz : Addr) : entryFrame m #[(.ref k), (.ref mg), (.ref cz)] 3 = mkF m 0 #[.val (.ref k), .val (.ref mg), .val (.ref cz)] [] := by first | (simp [entryFrame, mkF, argsToLocals, Value.category]; done) | rfl
set_option maxRecDepth 65536 in
set_option maxHeartbeats 40000000 in
theorem own_th2_rr (l : Launch) (Z : State) (a0 : Array Value) (hw : ∀ d ∈ tables_1, d.before a0 Z = true) (hEL : EW Z a0 consts_1) (k mg cz : Addr) (h : Heap) {us ss : Addr} (g_k : Z.heap.size ≤ k) (E_k : Exa Z h k "com/example/vestwright/vestwright/run/RunRefusedException") (U_k : Unt h k) (F_k_cause : Fld Z h k "java/lang/Throwable" "cause" "Ljava/lang/Throwable;" .null) (F_k_stackTrace : Fld Z h k "java/lang/Throwable" "stackTrace" "[Ljava/lang/StackTraceElement;" .null) (F_k_suppressedExceptions : Fld Z h k "java/lang/Throwable" "suppressedExceptions" "Ljava/util/List;" .null) (F_k_backtrace : Fld Z h k "java/lang/Throwable" "backtrace" "Ljava/lang/Object;" .null) (F_k_detailMessage : Fld Z h k "java/lang/Throwable" "detailMessage" "Ljava/lang/String;" .null) (Us : Sta Z Z.heap "java/lang/Throwable" "UNASSIGNED_STACK" "[Ljava/lang/StackTraceElement;" (.ref us)) (Ss : Sta Z Z.heap "java/lang/Throwable" "SUPPRESSED_SENTINEL" "Ljava/util/List;" (.ref ss)) (hlt : l.stackTraces = true) :
    Con l Z consts_1 True (⟨"java/lang/Throwable", "<init>", "(Ljava/lang/String;Ljava/lang/Throwable;)V"⟩ : MethodName) jdk_78_method_3_code 3 none ({ frames := 3, cells := 1, slots := 2752, locals := 42 } : Room) [k] #[(.ref k), (.ref mg), (.ref cz)] h (fun v h' ws' => v = none ∧ Kp Z h h' k ∧ Exa Z h' k "com/example/vestwright/vestwright/run/RunRefusedException" ∧ Unt h' k ∧ Fld Z h' k "java/lang/Throwable" "detailMessage" "Ljava/lang/String;" (.ref mg) ∧ Fld Z h' k "java/lang/Throwable" "cause" "Ljava/lang/Throwable;" (.ref cz) ∧ ws' = []) := by
  refine Con.intro own_pn38 (fun p e s m below meth c T X => ?_)
  rw [ef_own_th2_rr m k mg cz]
  have KP_ : Kp Z h h k := kp_refl _
  refine s_aloadN X (pc' := 1) d36_0 rfl rfl rfl ?_
  refine s_initO X (pc' := 4) (W := 0) d36_1 (hw _ (List.mem_of_getElem? (i := 160) rfl)) (hw _ (List.mem_of_getElem? (i := 12) rfl)) (b' := object_method_1_code) rfl (hw _ (List.mem_of_getElem? (i := 13) rfl)) (Nat.le_of_ble_eq_true rfl) (by decide) (by decide) rfl rfl (fun T X => ?_)
  refine s_aloadN X (pc' := 5) d36_4 rfl rfl rfl ?_
  refine s_aloadN X (pc' := 6) d36_5 rfl rfl rfl ?_
  refine s_putf X (pc' := 9) d36_6 (hw _ (List.mem_of_getElem? (i := 161) rfl)) Via.refl F_k_cause E_k (Or.inl (hw _ (List.mem_of_getElem? (i := 230) rfl))) (hw _ (List.mem_of_getElem? (i := 208) rfl)) (ty := (.object "java/lang/Throwable")) (by decide) rfl rfl g_k (by simp) rfl (fun T h166 X W167 => ?_)
  replace F_k_cause := F_k_cause.same W167
  replace F_k_stackTrace := F_k_stackTrace.other W167 (Or.inr (slot_ne (Or.inl (hw _ (List.mem_of_getElem? (i := 231) rfl))) (Or.inl (hw _ (List.mem_of_getElem? (i := 230) rfl))) (t := (.array (.object "java/lang/StackTraceElement"))) (t' := (.object "java/lang/Throwable")) (by decide) (by decide) (by decide)))
  replace F_k_suppressedExceptions := F_k_suppressedExceptions.other W167 (Or.inr (slot_ne (Or.inl (hw _ (List.mem_of_getElem? (i := 232) rfl))) (Or.inl (hw _ (List.mem_of_getElem? (i := 230) rfl))) (t := (.object "java/util/List")) (t' := (.object "java/lang/Throwable")) (by decide) (by decide) (by decide)))
  replace F_k_backtrace := F_k_backtrace.other W167 (Or.inr (slot_ne (Or.inl (hw _ (List.mem_of_getElem? (i := 236) rfl))) (Or.inl (hw _ (List.mem_of_getElem? (i := 230) rfl))) (t := (.object "java/lang/Object")) (t' := (.object "java/lang/Throwable")) (by decide) (by decide) (by decide)))
  replace F_k_detailMessage := F_k_detailMessage.other W167 (Or.inr (slot_ne (Or.inl (hw _ (List.mem_of_getElem? (i := 235) rfl))) (Or.inl (hw _ (List.mem_of_getElem? (i := 230) rfl))) (t := (.object "java/lang/String")) (t' := (.object "java/lang/Throwable")) (by decide) (by decide) (by decide)))
  replace E_k := E_k.wr W167
  replace KP_ := kp_wr KP_ W167 (by decide +kernel)
  refine s_aloadN X (pc' := 10) d36_9 rfl rfl rfl ?_
  refine s_gets X (pc' := 13) d36_10 (hw _ (List.mem_of_getElem? (i := 163) rfl)) Via.refl Us rfl (fun T X => ?_)
  refine s_putf X (pc' := 16) d36_13 (hw _ (List.mem_of_getElem? (i := 164) rfl)) Via.refl F_k_stackTrace E_k (Or.inl (hw _ (List.mem_of_getElem? (i := 231) rfl))) (hw _ (List.mem_of_getElem? (i := 208) rfl)) (ty := (.array (.object "java/lang/StackTraceElement"))) (by decide) rfl rfl g_k (by simp) rfl (fun T h168 X W169 => ?_)
  replace F_k_cause := F_k_cause.other W169 (Or.inr (slot_ne (Or.inl (hw _ (List.mem_of_getElem? (i := 230) rfl))) (Or.inl (hw _ (List.mem_of_getElem? (i := 231) rfl))) (t := (.object "java/lang/Throwable")) (t' := (.array (.object "java/lang/StackTraceElement"))) (by decide) (by decide) (by decide)))
  replace F_k_stackTrace := F_k_stackTrace.same W169
  replace F_k_suppressedExceptions := F_k_suppressedExceptions.other W169 (Or.inr (slot_ne (Or.inl (hw _ (List.mem_of_getElem? (i := 232) rfl))) (Or.inl (hw _ (List.mem_of_getElem? (i := 231) rfl))) (t := (.object "java/util/List")) (t' := (.array (.object "java/lang/StackTraceElement"))) (by decide) (by decide) (by decide)))
  replace F_k_backtrace := F_k_backtrace.other W169 (Or.inr (slot_ne (Or.inl (hw _ (List.mem_of_getElem? (i := 236) rfl))) (Or.inl (hw _ (List.mem_of_getElem? (i := 231) rfl))) (t := (.object "java/lang/Object")) (t' := (.array (.object "java/lang/StackTraceElement"))) (by decide) (by decide) (by decide)))
  replace F_k_detailMessage := F_k_detailMessage.other W169 (Or.inr (slot_ne (Or.inl (hw _ (List.mem_of_getElem? (i := 235) rfl))) (Or.inl (hw _ (List.mem_of_getElem? (i := 231) rfl))) (t := (.object "java/lang/String")) (t' := (.array (.object "java/lang/StackTraceElement"))) (by decide) (by decide) (by decide)))
  replace E_k := E_k.wr W169
  replace KP_ := kp_wr KP_ W169 (by decide +kernel)
  refine s_aloadN X (pc' := 17) d36_16 rfl rfl rfl ?_
  refine s_gets X (pc' := 20) d36_17 (hw _ (List.mem_of_getElem? (i := 166) rfl)) Via.refl Ss rfl (fun T X => ?_)
  refine s_putf X (pc' := 23) d36_20 (hw _ (List.mem_of_getElem? (i := 167) rfl)) Via.refl F_k_suppressedExceptions E_k (Or.inl (hw _ (List.mem_of_getElem? (i := 232) rfl))) (hw _ (List.mem_of_getElem? (i := 208) rfl)) (ty := (.object "java/util/List")) (by decide) rfl rfl g_k (by simp) rfl (fun T h170 X W171 => ?_)
  replace F_k_cause := F_k_cause.other W171 (Or.inr (slot_ne (Or.inl (hw _ (List.mem_of_getElem? (i := 230) rfl))) (Or.inl (hw _ (List.mem_of_getElem? (i := 232) rfl))) (t := (.object "java/lang/Throwable")) (t' := (.object "java/util/List")) (by decide) (by decide) (by decide)))
  replace F_k_stackTrace := F_k_stackTrace.other W171 (Or.inr (slot_ne (Or.inl (hw _ (List.mem_of_getElem? (i := 231) rfl))) (Or.inl (hw _ (List.mem_of_getElem? (i := 232) rfl))) (t := (.array (.object "java/lang/StackTraceElement"))) (t' := (.object "java/util/List")) (by decide) (by decide) (by decide)))
  replace F_k_suppressedExceptions := F_k_suppressedExceptions.same W171
  replace F_k_backtrace := F_k_backtrace.other W171 (Or.inr (slot_ne (Or.inl (hw _ (List.mem_of_getElem? (i := 236) rfl))) (Or.inl (hw _ (List.mem_of_getElem? (i := 232) rfl))) (t := (.object "java/lang/Object")) (t' := (.object "java/util/List")) (by decide) (by decide) (by decide)))
  replace F_k_detailMessage := F_k_detailMessage.other W171 (Or.inr (slot_ne (Or.inl (hw _ (List.mem_of_getElem? (i := 235) rfl))) (Or.inl (hw _ (List.mem_of_getElem? (i := 232) rfl))) (t := (.object "java/lang/String")) (t' := (.object "java/util/List")) (by decide) (by decide) (by decide)))
  replace E_k := E_k.wr W171
  replace KP_ := kp_wr KP_ W171 (by decide +kernel)
  refine s_aloadN X (pc' := 24) d36_23 rfl rfl rfl ?_
  refine s_fill X trivial hlt (rc := "com/example/vestwright/vestwright/run/RunRefusedException") (pc' := 27) (k' := 1) (n' := 2752) d36_24 rfl (own_xw_rr hw) (hw _ (List.mem_of_getElem? (i := 208) rfl)) Us E_k (U_k.kp KP_) F_k_stackTrace F_k_backtrace g_k (by simp) rfl (by decide) (by decide) (by decide) (by decide) (by decide) (by decide) rfl (fun T h172 X Kf_ E_k U1_k kf_ => ?_)
  replace KP_ := kp_trans KP_ Kf_
  replace F_k_detailMessage := kf_ F_k_detailMessage (slot_ne (Or.inl (hw _ (List.mem_of_getElem? (i := 236) rfl))) (Or.inl (hw _ (List.mem_of_getElem? (i := 235) rfl))) (t := (.object "java/lang/Object")) (t' := (.object "java/lang/String")) (by decide) (by decide) (by decide)) (slot_ne (Or.inl (hw _ (List.mem_of_getElem? (i := 237) rfl))) (Or.inl (hw _ (List.mem_of_getElem? (i := 235) rfl))) (t := .int) (t' := (.object "java/lang/String")) (by decide) (by decide) (by decide)) (slot_ne (Or.inl (hw _ (List.mem_of_getElem? (i := 231) rfl))) (Or.inl (hw _ (List.mem_of_getElem? (i := 235) rfl))) (t := (.array (.object "java/lang/StackTraceElement"))) (t' := (.object "java/lang/String")) (by decide) (by decide) (by decide))
  replace F_k_cause := kf_ F_k_cause (slot_ne (Or.inl (hw _ (List.mem_of_getElem? (i := 236) rfl))) (Or.inl (hw _ (List.mem_of_getElem? (i := 230) rfl))) (t := (.object "java/lang/Object")) (t' := (.object "java/lang/Throwable")) (by decide) (by decide) (by decide)) (slot_ne (Or.inl (hw _ (List.mem_of_getElem? (i := 237) rfl))) (Or.inl (hw _ (List.mem_of_getElem? (i := 230) rfl))) (t := .int) (t' := (.object "java/lang/Throwable")) (by decide) (by decide) (by decide)) (slot_ne (Or.inl (hw _ (List.mem_of_getElem? (i := 231) rfl))) (Or.inl (hw _ (List.mem_of_getElem? (i := 230) rfl))) (t := (.array (.object "java/lang/StackTraceElement"))) (t' := (.object "java/lang/Throwable")) (by decide) (by decide) (by decide))
  refine s_pop X (pc' := 28) d36_27 rfl rfl ?_
  refine s_aloadN X (pc' := 29) d36_28 rfl rfl rfl ?_
  refine s_aloadN X (pc' := 30) d36_29 rfl rfl rfl ?_
  refine s_putf X (pc' := 33) d36_30 (hw _ (List.mem_of_getElem? (i := 196) rfl)) Via.refl F_k_detailMessage E_k (Or.inl (hw _ (List.mem_of_getElem? (i := 235) rfl))) (hw _ (List.mem_of_getElem? (i := 208) rfl)) (ty := (.object "java/lang/String")) (by decide) rfl rfl g_k (by simp) rfl (fun T h173 X W174 => ?_)
  replace F_k_cause := F_k_cause.other W174 (Or.inr (slot_ne (Or.inl (hw _ (List.mem_of_getElem? (i := 230) rfl))) (Or.inl (hw _ (List.mem_of_getElem? (i := 235) rfl))) (t := (.object "java/lang/Throwable")) (t' := (.object "java/lang/String")) (by decide) (by decide) (by decide)))
  replace F_k_detailMessage := F_k_detailMessage.same W174
  replace E_k := E_k.wr W174
  replace KP_ := kp_wr KP_ W174 (by decide +kernel)
  refine s_aloadN X (pc' := 34) d36_33 rfl rfl rfl ?_
  refine s_aloadN X (pc' := 35) d36_34 rfl rfl rfl ?_
  refine s_putf X (pc' := 38) d36_35 (hw _ (List.mem_of_getElem? (i := 161) rfl)) Via.refl F_k_cause E_k (Or.inl (hw _ (List.mem_of_getElem? (i := 230) rfl))) (hw _ (List.mem_of_getElem? (i := 208) rfl)) (ty := (.object "java/lang/Throwable")) (by decide) rfl rfl g_k (by simp) rfl (fun T h175 X W176 => ?_)
  replace F_k_cause := F_k_cause.same W176
  replace F_k_detailMessage := F_k_detailMessage.other W176 (Or.inr (slot_ne (Or.inl (hw _ (List.mem_of_getElem? (i := 235) rfl))) (Or.inl (hw _ (List.mem_of_getElem? (i := 230) rfl))) (t := (.object "java/lang/String")) (t' := (.object "java/lang/Throwable")) (by decide) (by decide) (by decide)))
  replace E_k := E_k.wr W176
  replace KP_ := kp_wr KP_ W176 (by decide +kernel)
  exact s_ret X hEL (ws' := []) d36_38 (by decide) (by decide) (fun x q => by simp at q) ⟨rfl, KP_, E_k, U_k.kp KP_, F_k_detailMessage, F_k_cause, rfl⟩
theorem ef_own_ex2_rr (m : MethodId) (k mg cz : Addr) : entryFrame m #[(.ref k), (.ref mg), (.ref cz)] 3 = mkF m 0 #[.val (.ref k), .val (.ref mg), .val (.ref cz)] [] := by first | (simp [entryFrame, mkF, argsToLocals, Value.category]; done) | rfl
set_option maxRecDepth 65536 in
set_option maxHeartbeats 40000000 in
theorem own_ex2_rr (l : Launch) (Z : State) (a0 : Array Value) (hw : ∀ d ∈ tables_1, d.before a0 Z = true) (hEL : EW Z a0 consts_1) (k mg cz : Addr) (h : Heap) {us ss : Addr} (g_k : Z.heap.size ≤ k) (E_k : Exa Z h k "com/example/vestwright/vestwright/run/RunRefusedException") (U_k : Unt h k) (F_k_cause : Fld Z h k "java/lang/Throwable" "cause" "Ljava/lang/Throwable;" .null) (F_k_stackTrace : Fld Z h k "java/lang/Throwable" "stackTrace" "[Ljava/lang/StackTraceElement;" .null) (F_k_suppressedExceptions : Fld Z h k "java/lang/Throwable" "suppressedExceptions" "Ljava/util/List;" .null) (F_k_backtrace : Fld Z h k "java/lang/Throwable" "backtrace" "Ljava/lang/Object;" .null) (F_k_detailMessage : Fld Z h k "java/lang/Throwable" "detailMessage" "Ljava/lang/String;" .null) (Us : Sta Z Z.heap "java/lang/Throwable" "UNASSIGNED_STACK" "[Ljava/lang/StackTraceElement;" (.ref us)) (Ss : Sta Z Z.heap "java/lang/Throwable" "SUPPRESSED_SENTINEL" "Ljava/util/List;" (.ref ss)) (hlt : l.stackTraces = true) :
    Con l Z consts_1 True (⟨"java/lang/Exception", "<init>", "(Ljava/lang/String;Ljava/lang/Throwable;)V"⟩ : MethodName) jdk_59_method_3_code 3 none ({ frames := 4, cells := 1, slots := 2752, locals := 56 } : Room) [k] #[(.ref k), (.ref mg), (.ref cz)] h (fun v h' ws' => v = none ∧ Kp Z h h' k ∧ Exa Z h' k "com/example/vestwright/vestwright/run/RunRefusedException" ∧ Unt h' k ∧ Fld Z h' k "java/lang/Throwable" "detailMessage" "Ljava/lang/String;" (.ref mg) ∧ Fld Z h' k "java/lang/Throwable" "cause" "Ljava/lang/Throwable;" (.ref cz) ∧ ws' = []) := by
  refine Con.intro own_pn39 (fun p e s m below meth c T X => ?_)
  rw [ef_own_ex2_rr m k mg cz]
  refine s_aloadN X (pc' := 1) d35_0 rfl rfl rfl ?_
  refine s_aloadN X (pc' := 2) d35_1 rfl rfl rfl ?_
  refine s_aloadN X (pc' := 3) d35_2 rfl rfl rfl ?_
  refine s_special X (pc' := 6) (W := 0) (as' := [(.ref mg), (.ref cz)]) (S := []) (k' := 1) (n' := 2752) d35_3 rfl (hw _ (List.mem_of_getElem? (i := 225) rfl)) (hw _ (List.mem_of_getElem? (i := 226) rfl)) (hw _ (List.mem_of_getElem? (i := 229) rfl)) (by decide) own_pd25 rfl ((own_th2_rr l Z a0 hw hEL k mg cz _ g_k E_k U_k F_k_cause F_k_stackTrace F_k_suppressedExceptions F_k_backtrace F_k_detailMessage Us Ss hlt).payS (by simp) (hw _ (List.mem_of_getElem? (i := 229) rfl)) (hw _ (List.mem_of_getElem? (i := 158) rfl)) hEL (by decide) (by decide)) (Nat.le_of_ble_eq_true rfl) rfl rfl (by decide) (by decide) (by decide) (by decide) rfl (fun T h177 v_ ws_ X hgr_ q178 => ?_)
  obtain ⟨rfl, KP_, E1_, U1_, F1_, F2_, rfl⟩ := q178
  show Go p e below _ T (mkF m 6 #[.val (.ref k), .val (.ref mg), .val (.ref cz)] [])
  replace X := X.sub (ws' := [k]) (by simp)
  exact s_ret X hEL (ws' := []) d35_6 (by decide) (by decide) (fun x q => by simp at q) ⟨rfl, KP_, E1_, U1_, F1_, F2_, rfl⟩
theorem d33_0 : decode jdk_78_method_6_code 0 = .ok (.aload_n 0, 1) := by decide +kernel
theorem d33_1 : decode jdk_78_method_6_code 1 = .ok (.getfield 31, 3) := by decide +kernel
theorem d33_4 : decode jdk_78_method_6_code 4 = .ok (.areturn, 1) := by decide +kernel
theorem ef_own_gm (m : MethodId) (k : Addr) : entryFrame m #[(.ref k)] 1 = mkF m 0 #[.val (.ref k)] [] := by first | (simp [entryFrame, mkF, argsToLocals, Value.category]; done) | rfl
set_option maxRecDepth 65536 in
set_option maxHeartbeats 40000000 in
theorem own_gm (l : Launch) (Z : State) (a0 : Array Value) (hw : ∀ d ∈ tables_1, d.before a0 Z = true) (hEL : EW Z a0 consts_1) (k : Addr) (h : Heap) {r : Addr} (F_k_detailMessage : Fld Z h k "java/lang/Throwable" "detailMessage" "Ljava/lang/String;" (.ref r)) :
    Con l Z consts_1 True (⟨"java/lang/Throwable", "getMessage", "()Ljava/lang/String;"⟩ : MethodName) jdk_78_method_6_code 1 (some (.object "java/lang/String")) ({ frames := 0, cells := 0, slots := 0, locals := 0 } : Room) [] #[(.ref k)] h (fun v h' ws' => v = some (.ref r) ∧ h' = h ∧ ws' = []) := by
  refine Con.intro own_pn40 (fun p e s m below meth c T X => ?_)
  rw [ef_own_gm m k]
  refine s_aloadN X (pc' := 1) d33_0 rfl rfl rfl ?_
  refine s_getf X (pc' := 4) d33_1 (hw _ (List.mem_of_getElem? (i := 196) rfl)) Via.refl F_k_detailMessage rfl (fun T X => ?_)
  exact s_aret X hEL (ws' := []) (t := (.object "java/lang/String")) d33_4 rfl rfl rfl rfl (by decide) (by decide) (fun x q => by simp at q) ⟨rfl, rfl, rfl⟩
theorem d37_0 : decode prog_47_method_5_code 0 = .ok (.aload_n 0, 1) := by decide +kernel
theorem d37_1 : decode prog_47_method_5_code 1 = .ok (.getfield 7, 3) := by decide +kernel
theorem d37_4 : decode prog_47_method_5_code 4 = .ok (.areturn, 1) := by decide +kernel
theorem ef_own_kind (m : MethodId) (k : Addr) : entryFrame m #[(.ref k)] 1 = mkF m 0 #[.val (.ref k)] [] := by first | (simp [entryFrame, mkF, argsToLocals, Value.category]; done) | rfl
set_option maxRecDepth 65536 in
set_option maxHeartbeats 40000000 in
theorem own_kind (l : Launch) (Z : State) (a0 : Array Value) (hw : ∀ d ∈ tables_1, d.before a0 Z = true) (hEL : EW Z a0 consts_1) (k : Addr) (h : Heap) {r : Addr} (F_k_kind : Fld Z h k "com/example/vestwright/vestwright/run/RunRefusedException" "kind" "Lcom/example/vestwright/vestwright/run/RunRefusedException$Kind;" (.ref r)) :
    Con l Z consts_1 True (⟨"com/example/vestwright/vestwright/run/RunRefusedException", "kind", "()Lcom/example/vestwright/vestwright/run/RunRefusedException$Kind;"⟩ : MethodName) prog_47_method_5_code 1 (some (.object "com/example/vestwright/vestwright/run/RunRefusedException$Kind")) ({ frames := 0, cells := 0, slots := 0, locals := 0 } : Room) [] #[(.ref k)] h (fun v h' ws' => v = some (.ref r) ∧ h' = h ∧ ws' = []) := by
  refine Con.intro own_pn41 (fun p e s m below meth c T X => ?_)
  rw [ef_own_kind m k]
  refine s_aloadN X (pc' := 1) d37_0 rfl rfl rfl ?_
  refine s_getf X (pc' := 4) d37_1 (hw _ (List.mem_of_getElem? (i := 239) rfl)) Via.refl F_k_kind rfl (fun T X => ?_)
  exact s_aret X hEL (ws' := []) (t := (.object "com/example/vestwright/vestwright/run/RunRefusedException$Kind")) d37_4 rfl rfl rfl rfl (by decide) (by decide) (fun x q => by simp at q) ⟨rfl, rfl, rfl⟩
theorem d41_0 : decode prog_18_method_3_code 0 = .ok (.aload_n 0, 1) := by decide +kernel
theorem d41_1 : decode prog_18_method_3_code 1 = .ok (.getfield 27, 3) := by decide +kernel
theorem d41_4 : decode prog_18_method_3_code 4 = .ok (.areturn, 1) := by decide +kernel
theorem ef_own_if (m : MethodId) (k : Addr) : entryFrame m #[(.ref k)] 1 = mkF m 0 #[.val (.ref k)] [] := by first | (simp [entryFrame, mkF, argsToLocals, Value.category]; done) | rfl
set_option maxRecDepth 65536 in
set_option maxHeartbeats 40000000 in
theorem own_if (l : Launch) (Z : State) (a0 : Array Value) (hw : ∀ d ∈ tables_1, d.before a0 Z = true) (hEL : EW Z a0 consts_1) (k : Addr) (h : Heap) {r : Addr} (F_k_file : Fld Z h k "com/example/vestwright/vestwright/input/InputException" "file" "Ljava/lang/String;" (.ref r)) :
    Con l Z consts_1 True (⟨"com/example/vestwright/vestwright/input/InputException", "file", "()Ljava/lang/String;"⟩ : MethodName) prog_18_method_3_code 1 (some (.object "java/lang/String")) ({ frames := 0, cells := 0, slots := 0, locals := 0 } : Room) [] #[(.ref k)] h (fun v h' ws' => v = some (.ref r) ∧ h' = h ∧ ws' = []) := by
  refine Con.intro own_pn42 (fun p e s m below meth c T X => ?_)
  rw [ef_own_if m k]
  refine s_aloadN X (pc' := 1) d41_0 rfl rfl rfl ?_
  refine s_getf X (pc' := 4) d41_1 (hw _ (List.mem_of_getElem? (i := 197) rfl)) Via.refl F_k_file rfl (fun T X => ?_)
  exact s_aret X hEL (ws' := []) (t := (.object "java/lang/String")) d41_4 rfl rfl rfl rfl (by decide) (by decide) (fun x q => by simp at q) ⟨rfl, rfl, rfl⟩
theorem d48_0 : decode prog_18_method_5_code 0 = .ok (.aload_n 0, 1) := by decide +kernel
theorem d48_1 : decode prog_18_method_5_code 1 = .ok (.getfield 37, 3) := by decide +kernel
theorem d48_4 : decode prog_18_method_5_code 4 = .ok (.areturn, 1) := by decide +kernel
theorem ef_own_ir (m : MethodId) (k : Addr) : entryFrame m #[(.ref k)] 1 = mkF m 0 #[.val (.ref k)] [] := by first | (simp [entryFrame, mkF, argsToLocals, Value.category]; done) | rfl
set_option maxRecDepth 65536 in
set_option maxHeartbeats 40000000 in
theorem own_ir (l : Launch) (Z : State) (a0 : Array Value) (hw : ∀ d ∈ tables_1, d.before a0 Z = true) (hEL : EW Z a0 consts_1) (k : Addr) (h : Heap) {r : Addr} (F_k_reason : Fld Z h k "com/example/vestwright/vestwright/input/InputException" "reason" "Ljava/lang/String;" (.ref r)) :
    Con l Z consts_1 True (⟨"com/example/vestwright/vestwright/input/InputException", "reason", "()Ljava/lang/String;"⟩ : MethodName) prog_18_method_5_code 1 (some (.object "java/lang/String")) ({ frames := 0, cells := 0, slots := 0, locals := 0 } : Room) [] #[(.ref k)] h (fun v h' ws' => v = some (.ref r) ∧ h' = h ∧ ws' = []) := by
  refine Con.intro own_pn43 (fun p e s m below meth c T X => ?_)
  rw [ef_own_ir m k]
  refine s_aloadN X (pc' := 1) d48_0 rfl rfl rfl ?_
  refine s_getf X (pc' := 4) d48_1 (hw _ (List.mem_of_getElem? (i := 201) rfl)) Via.refl F_k_reason rfl (fun T X => ?_)
  exact s_aret X hEL (ws' := []) (t := (.object "java/lang/String")) d48_4 rfl rfl rfl rfl (by decide) (by decide) (fun x q => by simp at q) ⟨rfl, rfl, rfl⟩
theorem d43_0 : decode jdk_31_method_10_code 0 = .ok (.aload_n 0, 1) := by decide +kernel
theorem d43_1 : decode jdk_31_method_10_code 1 = .ok (.ifnonnull 11, 3) := by decide +kernel
theorem d43_4 : decode jdk_31_method_10_code 4 = .ok (.new 84, 3) := by decide +kernel
theorem d43_7 : decode jdk_31_method_10_code 7 = .ok (.dup, 1) := by decide +kernel
theorem d43_8 : decode jdk_31_method_10_code 8 = .ok (.invokespecial 86, 3) := by decide +kernel
theorem d43_11 : decode jdk_31_method_10_code 11 = .ok (.athrow, 1) := by decide +kernel
theorem d43_12 : decode jdk_31_method_10_code 12 = .ok (.aload_n 0, 1) := by decide +kernel
theorem d43_13 : decode jdk_31_method_10_code 13 = .ok (.areturn, 1) := by decide +kernel
theorem ef_own_rnn (m : MethodId) (a : Addr) : entryFrame m #[(.ref a)] 1 = mkF m 0 #[.val (.ref a)] [] := by first | (simp [entryFrame, mkF, argsToLocals, Value.category]; done) | rfl
set_option maxRecDepth 65536 in
set_option maxHeartbeats 40000000 in
theorem own_rnn (l : Launch) (Z : State) (a0 : Array Value) (hw : ∀ d ∈ tables_1, d.before a0 Z = true) (hEL : EW Z a0 consts_1) (a : Addr) (h : Heap)  :
    Con l Z consts_1 True (⟨"java/util/Objects", "requireNonNull", "(Ljava/lang/Object;)Ljava/lang/Object;"⟩ : MethodName) jdk_31_method_10_code 1 (some (.object "java/lang/Object")) ({ frames := 0, cells := 0, slots := 0, locals := 0 } : Room) [] #[(.ref a)] h (fun v h' ws' => v = some (.ref a) ∧ h' = h ∧ ws' = []) := by
  refine Con.intro own_pn44 (fun p e s m below meth c T X => ?_)
  rw [ef_own_rnn m a]
  refine s_aloadN X (pc' := 1) d43_0 rfl rfl rfl ?_
  refine s_ifnonnullT X (pc' := 12) d43_1 (by decide) (by decide) ?_
  refine s_aloadN X (pc' := 13) d43_12 rfl rfl rfl ?_
  exact s_aret X hEL (ws' := []) (t := (.object "java/lang/Object")) d43_13 rfl rfl rfl rfl (by decide) (by decide) (fun x q => by simp at q) ⟨rfl, rfl, rfl⟩
theorem d44_0 : decode jdk_32_method_2_code 0 = .ok (.aload_n 0, 1) := by decide +kernel
theorem d44_1 : decode jdk_32_method_2_code 1 = .ok (.invokespecial 7, 3) := by decide +kernel
theorem d44_4 : decode jdk_32_method_2_code 4 = .ok (.aload_n 0, 1) := by decide +kernel
theorem d44_5 : decode jdk_32_method_2_code 5 = .ok (.aload_n 1, 1) := by decide +kernel
theorem d44_6 : decode jdk_32_method_2_code 6 = .ok (.putfield 13, 3) := by decide +kernel
theorem d44_9 : decode jdk_32_method_2_code 9 = .ok (.return_, 1) := by decide +kernel
theorem ef_own_oini (m : MethodId) (k a : Addr) : entryFrame m #[(.ref k), (.ref a)] 2 = mkF m 0 #[.val (.ref k), .val (.ref a)] [] := by first | (simp [entryFrame, mkF, argsToLocals, Value.category]; done) | rfl
set_option maxRecDepth 65536 in
set_option maxHeartbeats 40000000 in
theorem own_oini (l : Launch) (Z : State) (a0 : Array Value) (hw : ∀ d ∈ tables_1, d.before a0 Z = true) (hEL : EW Z a0 consts_1) (k a : Addr) (h : Heap) (g_k : Z.heap.size ≤ k) (E_k : Exa Z h k "java/util/Optional") (F_k_value : Fld Z h k "java/util/Optional" "value" "Ljava/lang/Object;" .null) :
    Con l Z consts_1 True (⟨"java/util/Optional", "<init>", "(Ljava/lang/Object;)V"⟩ : MethodName) jdk_32_method_2_code 2 none ({ frames := 1, cells := 0, slots := 0, locals := 12 } : Room) [k] #[(.ref k), (.ref a)] h (fun v h' ws' => v = none ∧ Keep h h' [k] ∧ Fld Z h' k "java/util/Optional" "value" "Ljava/lang/Object;" (.ref a) ∧ ws' = []) := by
  refine Con.intro own_pn45 (fun p e s m below meth c T X => ?_)
  rw [ef_own_oini m k a]
  have K_ : Keep h h [k] := Keep.refl _ _
  refine s_aloadN X (pc' := 1) d44_0 rfl rfl rfl ?_
  refine s_initO X (pc' := 4) (W := 0) d44_1 (hw _ (List.mem_of_getElem? (i := 292) rfl)) (hw _ (List.mem_of_getElem? (i := 12) rfl)) (b' := object_method_1_code) rfl (hw _ (List.mem_of_getElem? (i := 13) rfl)) (Nat.le_of_ble_eq_true rfl) (by decide) (by decide) rfl rfl (fun T X => ?_)
  refine s_aloadN X (pc' := 5) d44_4 rfl rfl rfl ?_
  refine s_aloadN X (pc' := 6) d44_5 rfl rfl rfl ?_
  refine s_putf X (pc' := 9) d44_6 (hw _ (List.mem_of_getElem? (i := 293) rfl)) Via.refl F_k_value E_k (Or.inr ⟨(hw _ (List.mem_of_getElem? (i := 294) rfl)), rfl, rfl⟩) (hw _ (List.mem_of_getElem? (i := 283) rfl)) (ty := (.object "java/lang/Object")) (by decide) rfl rfl g_k (by simp) rfl (fun T h179 X W180 => ?_)
  replace F_k_value := F_k_value.same W180
  replace E_k := E_k.wr W180
  replace K_ := K_.wr W180 (Or.inl (by simp))
  exact s_ret X hEL (ws' := []) d44_9 (by decide) (by decide) (fun x q => by simp at q) ⟨rfl, K_, F_k_value, rfl⟩
theorem d42_0 : decode jdk_32_method_3_code 0 = .ok (.new 2, 3) := by decide +kernel
theorem d42_3 : decode jdk_32_method_3_code 3 = .ok (.dup, 1) := by decide +kernel
theorem d42_4 : decode jdk_32_method_3_code 4 = .ok (.aload_n 0, 1) := by decide +kernel
theorem d42_5 : decode jdk_32_method_3_code 5 = .ok (.invokestatic 17, 3) := by decide +kernel
theorem d42_8 : decode jdk_32_method_3_code 8 = .ok (.invokespecial 23, 3) := by decide +kernel
theorem d42_11 : decode jdk_32_method_3_code 11 = .ok (.areturn, 1) := by decide +kernel
theorem ef_own_oo (m : MethodId) (a : Addr) : entryFrame m #[(.ref a)] 1 = mkF m 0 #[.val (.ref a)] [] := by first | (simp [entryFrame, mkF, argsToLocals, Value.category]; done) | rfl
set_option maxRecDepth 65536 in
set_option maxHeartbeats 40000000 in
theorem own_oo (l : Launch) (Z : State) (a0 : Array Value) (hw : ∀ d ∈ tables_1, d.before a0 Z = true) (hEL : EW Z a0 consts_1) (a : Addr) (h : Heap)  :
    Con l Z consts_1 True (⟨"java/util/Optional", "of", "(Ljava/lang/Object;)Ljava/util/Optional;"⟩ : MethodName) jdk_32_method_3_code 1 (some (.object "java/util/Optional")) ({ frames := 2, cells := 1, slots := 1, locals := 26 } : Room) [] #[(.ref a)] h (fun v h' ws' => ∃ o, v = some (.ref o) ∧ Ext h h' ∧ Exa Z h' o "java/util/Optional" ∧ Fld Z h' o "java/util/Optional" "value" "Ljava/lang/Object;" (.ref a) ∧ ws' = []) := by
  refine Con.intro own_pn46 (fun p e s m below meth c T X => ?_)
  rw [ef_own_oo m a]
  have R_ : Ext h h := ext_refl _
  refine s_new X (pc' := 3) (k' := 1) (n' := 1) d42_0 (hw _ (List.mem_of_getElem? (i := 282) rfl)) (hw _ (List.mem_of_getElem? (i := 283) rfl)) (hw _ (List.mem_of_getElem? (i := 280) rfl)) (by decide) (by decide) (by decide) (by decide) rfl (fun T h182 b181 gb_b181 X' E183 E_b181 D_b181 U_b181 => ?_)
  have g_b181 : Z.heap.size ≤ b181 := by rw [gb_b181]; exact X.lt
  have sz_R__b181 : h.size ≤ b181 := by rw [gb_b181]; exact R_.1
  replace R_ := ext_trans R_ E183
  replace X := X'
  have F_b181_value : Fld Z h182 b181 "java/util/Optional" "value" "Ljava/lang/Object;" .null := D_b181 (Or.inr (hw _ (List.mem_of_getElem? (i := 294) rfl))) (ty := (.object "java/lang/Object")) (by decide)
  refine s_dup X (pc' := 4) d42_3 rfl rfl ?_
  refine s_aloadN X (pc' := 5) d42_4 rfl rfl rfl ?_
  refine s_static X (pc' := 8) (W := 2) (as' := [(.ref a)]) (S := [(.ref b181), (.ref b181)]) (k' := 1) (n' := 1) d42_5 (hw _ (List.mem_of_getElem? (i := 284) rfl)) (hw _ (List.mem_of_getElem? (i := 285) rfl)) (hw _ (List.mem_of_getElem? (i := 286) rfl)) (hw _ (List.mem_of_getElem? (i := 287) rfl)) (by decide) own_pd26 rfl ((own_rnn l Z a0 hw hEL a _).payS (by simp) (hw _ (List.mem_of_getElem? (i := 287) rfl)) (hw _ (List.mem_of_getElem? (i := 286) rfl)) hEL (by decide) (by decide)) (Nat.le_of_ble_eq_true rfl) rfl rfl (by decide) (by decide) (by decide) (by decide) rfl (fun T h184 v_ ws_ X hgr_ q185 => ?_)
  obtain ⟨rfl, e_, rfl⟩ := q185
  rw [e_] at X
  show Go p e below _ T (mkF m 8 #[.val (.ref a)] [(.ref a), (.ref b181), (.ref b181)])
  replace X := X.sub (ws' := [b181]) (by simp)
  refine s_special X (pc' := 11) (W := 1) (as' := [(.ref a)]) (S := [(.ref b181)]) (k' := 1) (n' := 1) d42_8 rfl (hw _ (List.mem_of_getElem? (i := 288) rfl)) (hw _ (List.mem_of_getElem? (i := 289) rfl)) (hw _ (List.mem_of_getElem? (i := 291) rfl)) (by decide) own_pd27 rfl ((own_oini l Z a0 hw hEL b181 a _ g_b181 E_b181 F_b181_value).payS (by simp) (hw _ (List.mem_of_getElem? (i := 291) rfl)) (hw _ (List.mem_of_getElem? (i := 280) rfl)) hEL (by decide) (by decide)) (Nat.le_of_ble_eq_true rfl) rfl rfl (by decide) (by decide) (by decide) (by decide) rfl (fun T h186 v_ ws_ X hgr_ q187 => ?_)
  obtain ⟨rfl, K_, F', rfl⟩ := q187
  show Go p e below _ T (mkF m 11 #[.val (.ref a)] [(.ref b181)])
  replace X := X.sub (ws' := []) (by simp)
  replace E_b181 := E_b181.keep K_
  replace R_ := ext_keep R_ K_ (allS sz_R__b181 all0)
  exact s_aret X hEL (ws' := []) (t := (.object "java/util/Optional")) d42_11 rfl rfl rfl rfl (by decide) (by decide) (fun x q => by simp at q) ⟨b181, rfl, R_, E_b181, F', rfl⟩
theorem d45_0 : decode jdk_32_method_6_code 0 = .ok (.aload_n 0, 1) := by decide +kernel
theorem d45_1 : decode jdk_32_method_6_code 1 = .ok (.getfield 13, 3) := by decide +kernel
theorem d45_4 : decode jdk_32_method_6_code 4 = .ok (.ifnull 7, 3) := by decide +kernel
theorem d45_7 : decode jdk_32_method_6_code 7 = .ok (.iconst 1, 1) := by decide +kernel
theorem d45_8 : decode jdk_32_method_6_code 8 = .ok (.goto 4, 3) := by decide +kernel
theorem d45_11 : decode jdk_32_method_6_code 11 = .ok (.iconst 0, 1) := by decide +kernel
theorem d45_12 : decode jdk_32_method_6_code 12 = .ok (.ireturn, 1) := by decide +kernel
theorem ef_own_ip (m : MethodId) (k : Addr) : entryFrame m #[(.ref k)] 1 = mkF m 0 #[.val (.ref k)] [] := by first | (simp [entryFrame, mkF, argsToLocals, Value.category]; done) | rfl
set_option maxRecDepth 65536 in
set_option maxHeartbeats 40000000 in
theorem own_ip (l : Launch) (Z : State) (a0 : Array Value) (hw : ∀ d ∈ tables_1, d.before a0 Z = true) (hEL : EW Z a0 consts_1) (k : Addr) (h : Heap) {q : Addr} (F_k_value : Fld Z h k "java/util/Optional" "value" "Ljava/lang/Object;" (.ref q)) :
    Con l Z consts_1 True (⟨"java/util/Optional", "isPresent", "()Z"⟩ : MethodName) jdk_32_method_6_code 1 (some .boolean) ({ frames := 0, cells := 0, slots := 0, locals := 0 } : Room) [] #[(.ref k)] h (fun v h' ws' => v = some (.int (1)) ∧ h' = h ∧ ws' = []) := by
  refine Con.intro own_pn47 (fun p e s m below meth c T X => ?_)
  rw [ef_own_ip m k]
  refine s_aloadN X (pc' := 1) d45_0 rfl rfl rfl ?_
  refine s_getf X (pc' := 4) d45_1 (hw _ (List.mem_of_getElem? (i := 293) rfl)) Via.refl F_k_value rfl (fun T X => ?_)
  refine s_ifnullF X (pc' := 7) d45_4 rfl ?_
  refine s_iconst X (pc' := 8) d45_7 (v := (1 : Int32)) rfl rfl ?_
  refine s_goto X (pc' := 12) d45_8 (by decide) (by decide) ?_
  exact s_iretN X hEL (ws' := []) (t := .boolean) d45_12 rfl (by simp) (by decide) (by decide) (fun x q => by simp at q) ⟨rfl, rfl, rfl⟩
theorem d46_0 : decode jdk_32_method_5_code 0 = .ok (.aload_n 0, 1) := by decide +kernel
theorem d46_1 : decode jdk_32_method_5_code 1 = .ok (.getfield 13, 3) := by decide +kernel
theorem d46_4 : decode jdk_32_method_5_code 4 = .ok (.ifnonnull 13, 3) := by decide +kernel
theorem d46_17 : decode jdk_32_method_5_code 17 = .ok (.aload_n 0, 1) := by decide +kernel
theorem d46_18 : decode jdk_32_method_5_code 18 = .ok (.getfield 13, 3) := by decide +kernel
theorem d46_21 : decode jdk_32_method_5_code 21 = .ok (.areturn, 1) := by decide +kernel
theorem ef_own_get (m : MethodId) (k : Addr) : entryFrame m #[(.ref k)] 1 = mkF m 0 #[.val (.ref k)] [] := by first | (simp [entryFrame, mkF, argsToLocals, Value.category]; done) | rfl
set_option maxRecDepth 65536 in
set_option maxHeartbeats 40000000 in
theorem own_get (l : Launch) (Z : State) (a0 : Array Value) (hw : ∀ d ∈ tables_1, d.before a0 Z = true) (hEL : EW Z a0 consts_1) (k : Addr) (h : Heap) {q : Addr} (F_k_value : Fld Z h k "java/util/Optional" "value" "Ljava/lang/Object;" (.ref q)) :
    Con l Z consts_1 True (⟨"java/util/Optional", "get", "()Ljava/lang/Object;"⟩ : MethodName) jdk_32_method_5_code 1 (some (.object "java/lang/Object")) ({ frames := 0, cells := 0, slots := 0, locals := 0 } : Room) [] #[(.ref k)] h (fun v h' ws' => v = some (.ref q) ∧ h' = h ∧ ws' = []) := by
  refine Con.intro own_pn48 (fun p e s m below meth c T X => ?_)
  rw [ef_own_get m k]
  refine s_aloadN X (pc' := 1) d46_0 rfl rfl rfl ?_
  refine s_getf X (pc' := 4) d46_1 (hw _ (List.mem_of_getElem? (i := 293) rfl)) Via.refl F_k_value rfl (fun T X => ?_)
  refine s_ifnonnullT X (pc' := 17) d46_4 (by decide) (by decide) ?_
  refine s_aloadN X (pc' := 18) d46_17 rfl rfl rfl ?_
  refine s_getf X (pc' := 21) d46_18 (hw _ (List.mem_of_getElem? (i := 293) rfl)) Via.refl F_k_value rfl (fun T X => ?_)
  exact s_aret X hEL (ws' := []) (t := (.object "java/lang/Object")) d46_21 rfl rfl rfl rfl (by decide) (by decide) (fun x q => by simp at q) ⟨rfl, rfl, rfl⟩
theorem d38_0 : decode jdk_42_method_66_code 0 = .ok (.aload_n 0, 1) := by decide +kernel
theorem d38_1 : decode jdk_42_method_66_code 1 = .ok (.aload_n 1, 1) := by decide +kernel
theorem d38_2 : decode jdk_42_method_66_code 2 = .ok (.if_acmp .ne 5, 3) := by decide +kernel
theorem d38_5 : decode jdk_42_method_66_code 5 = .ok (.iconst 1, 1) := by decide +kernel
theorem d38_6 : decode jdk_42_method_66_code 6 = .ok (.ireturn, 1) := by decide +kernel
theorem ef_own_eqs (m : MethodId) (a : Addr) : entryFrame m #[(.ref a), (.ref a)] 3 = mkF m 0 #[.val (.ref a), .val (.ref a), .unset] [] := by first | (simp [entryFrame, mkF, argsToLocals, Value.category]; done) | rfl
set_option maxRecDepth 65536 in
set_option maxHeartbeats 40000000 in
theorem own_eqs (l : Launch) (Z : State) (a0 : Array Value) (hw : ∀ d ∈ tables_1, d.before a0 Z = true) (hEL : EW Z a0 consts_1) (a : Addr) (h : Heap)  :
    Con l Z consts_1 True (⟨"java/lang/String", "equals", "(Ljava/lang/Object;)Z"⟩ : MethodName) jdk_42_method_66_code 3 (some .boolean) ({ frames := 0, cells := 0, slots := 0, locals := 0 } : Room) [] #[(.ref a), (.ref a)] h (fun v h' ws' => v = some (.int (1)) ∧ h' = h ∧ ws' = []) := by
  refine Con.intro own_pn49 (fun p e s m below meth c T X => ?_)
  rw [ef_own_eqs m a]
  refine s_aloadN X (pc' := 1) d38_0 rfl rfl rfl ?_
  refine s_aloadN X (pc' := 2) d38_1 rfl rfl rfl ?_
  refine s_acmpF X (pc' := 5) d38_2 rfl rfl (by simp [XT.acmp]) rfl ?_
  refine s_iconst X (pc' := 6) d38_5 (v := (1 : Int32)) rfl rfl ?_
  exact s_iretN X hEL (ws' := []) (t := .boolean) d38_6 rfl (by simp) (by decide) (by decide) (fun x q => by simp at q) ⟨rfl, rfl, rfl⟩
theorem d34_0 : decode prog_47_method_1_code 0 = .ok (.aload_n 0, 1) := by decide +kernel
theorem d34_1 : decode prog_47_method_1_code 1 = .ok (.aload_n 2, 1) := by decide +kernel
theorem d34_2 : decode prog_47_method_1_code 2 = .ok (.aload_n 3, 1) := by decide +kernel
theorem d34_3 : decode prog_47_method_1_code 3 = .ok (.invokespecial 1, 3) := by decide +kernel
theorem d34_6 : decode prog_47_method_1_code 6 = .ok (.aload_n 0, 1) := by decide +kernel
theorem d34_7 : decode prog_47_method_1_code 7 = .ok (.aload_n 1, 1) := by decide +kernel
theorem d34_8 : decode prog_47_method_1_code 8 = .ok (.putfield 7, 3) := by decide +kernel
theorem d34_11 : decode prog_47_method_1_code 11 = .ok (.return_, 1) := by decide +kernel
theorem ef_own_ri (m : MethodId) (k kd mg cz : Addr) : entryFrame m #[(.ref k), (.ref kd), (.ref mg), (.ref cz)] 4 = mkF m 0 #[.val (.ref k), .val (.ref kd), .val (.ref mg), .val (.ref cz)] [] := by first | (simp [entryFrame, mkF, argsToLocals, Value.category]; done) | rfl
set_option maxRecDepth 65536 in
set_option maxHeartbeats 40000000 in
theorem own_ri (l : Launch) (Z : State) (a0 : Array Value) (hw : ∀ d ∈ tables_1, d.before a0 Z = true) (hEL : EW Z a0 consts_1) (k kd mg cz : Addr) (h : Heap) {us ss : Addr} (g_k : Z.heap.size ≤ k) (E_k : Exa Z h k "com/example/vestwright/vestwright/run/RunRefusedException") (U_k : Unt h k) (F_k_cause : Fld Z h k "java/lang/Throwable" "cause" "Ljava/lang/Throwable;" .null) (F_k_stackTrace : Fld Z h k "java/lang/Throwable" "stackTrace" "[Ljava/lang/StackTraceElement;" .null) (F_k_suppressedExceptions : Fld Z h k "java/lang/Throwable" "suppressedExceptions" "Ljava/util/List;" .null) (F_k_backtrace : Fld Z h k "java/lang/Throwable" "backtrace" "Ljava/lang/Object;" .null) (F_k_detailMessage : Fld Z h k "java/lang/Throwable" "detailMessage" "Ljava/lang/String;" .null) (F_k_kind : Fld Z h k "com/example/vestwright/vestwright/run/RunRefusedException" "kind" "Lcom/example/vestwright/vestwright/run/RunRefusedException$Kind;" .null) (Us : Sta Z Z.heap "java/lang/Throwable" "UNASSIGNED_STACK" "[Ljava/lang/StackTraceElement;" (.ref us)) (Ss : Sta Z Z.heap "java/lang/Throwable" "SUPPRESSED_SENTINEL" "Ljava/util/List;" (.ref ss)) (hlt : l.stackTraces = true) :
    Con l Z consts_1 True (⟨"com/example/vestwright/vestwright/run/RunRefusedException", "<init>", "(Lcom/example/vestwright/vestwright/run/RunRefusedException$Kind;Ljava/lang/String;Ljava/lang/Exception;)V"⟩ : MethodName) prog_47_method_1_code 4 none ({ frames := 5, cells := 1, slots := 2752, locals := 70 } : Room) [k] #[(.ref k), (.ref kd), (.ref mg), (.ref cz)] h (fun v h' ws' => v = none ∧ Keep h h' [k] ∧ Exa Z h' k "com/example/vestwright/vestwright/run/RunRefusedException" ∧ Unt h' k ∧ Fld Z h' k "com/example/vestwright/vestwright/run/RunRefusedException" "kind" "Lcom/example/vestwright/vestwright/run/RunRefusedException$Kind;" (.ref kd) ∧ Fld Z h' k "java/lang/Throwable" "detailMessage" "Ljava/lang/String;" (.ref mg) ∧ Fld Z h' k "java/lang/Throwable" "cause" "Ljava/lang/Throwable;" (.ref cz) ∧ ws' = []) := by
  refine Con.intro own_pn50 (fun p e s m below meth c T X => ?_)
  rw [ef_own_ri m k kd mg cz]
  have K_ : Keep h h [k] := Keep.refl _ _
  refine s_aloadN X (pc' := 1) d34_0 rfl rfl rfl ?_
  refine s_aloadN X (pc' := 2) d34_1 rfl rfl rfl ?_
  refine s_aloadN X (pc' := 3) d34_2 rfl rfl rfl ?_
  refine s_special X (pc' := 6) (W := 0) (as' := [(.ref mg), (.ref cz)]) (S := []) (k' := 1) (n' := 2752) d34_3 rfl (hw _ (List.mem_of_getElem? (i := 221) rfl)) (hw _ (List.mem_of_getElem? (i := 222) rfl)) (hw _ (List.mem_of_getElem? (i := 224) rfl)) (by decide) own_pd25 rfl ((own_ex2_rr l Z a0 hw hEL k mg cz _ g_k E_k U_k F_k_cause F_k_stackTrace F_k_suppressedExceptions F_k_backtrace F_k_detailMessage Us Ss hlt).payS (by simp) (hw _ (List.mem_of_getElem? (i := 224) rfl)) (hw _ (List.mem_of_getElem? (i := 152) rfl)) hEL (by decide) (by decide)) (Nat.le_of_ble_eq_true rfl) rfl rfl (by decide) (by decide) (by decide) (by decide) rfl (fun T h188 v_ ws_ X hgr_ q189 => ?_)
  obtain ⟨rfl, Kp_, E'_, Ut_, Fm_, Fc_, rfl⟩ := q189
  show Go p e below _ T (mkF m 6 #[.val (.ref k), .val (.ref kd), .val (.ref mg), .val (.ref cz)] [])
  replace X := X.sub (ws' := [k]) (by simp)
  have K_x := keep_of_kp Kp_
  replace F_k_kind := Fld.kp Kp_ F_k_kind (Or.inr (fun nd hnd => by
    simp only [Jvm.Free.Exc.sixNames, List.mem_cons, List.not_mem_nil, or_false] at hnd
    rcases hnd with rfl | rfl | rfl | rfl | rfl | rfl
    · exact slot_ne (Or.inl (hw _ (List.mem_of_getElem? (i := 230) rfl))) (Or.inr (hw _ (List.mem_of_getElem? (i := 240) rfl))) (t := (.object "java/lang/Throwable")) (t' := (.object "com/example/vestwright/vestwright/run/RunRefusedException$Kind")) (by decide) (by decide) (by decide)
    · exact slot_ne (Or.inl (hw _ (List.mem_of_getElem? (i := 231) rfl))) (Or.inr (hw _ (List.mem_of_getElem? (i := 240) rfl))) (t := (.array (.object "java/lang/StackTraceElement"))) (t' := (.object "com/example/vestwright/vestwright/run/RunRefusedException$Kind")) (by decide) (by decide) (by decide)
    · exact slot_ne (Or.inl (hw _ (List.mem_of_getElem? (i := 232) rfl))) (Or.inr (hw _ (List.mem_of_getElem? (i := 240) rfl))) (t := (.object "java/util/List")) (t' := (.object "com/example/vestwright/vestwright/run/RunRefusedException$Kind")) (by decide) (by decide) (by decide)
    · exact slot_ne (Or.inl (hw _ (List.mem_of_getElem? (i := 236) rfl))) (Or.inr (hw _ (List.mem_of_getElem? (i := 240) rfl))) (t := (.object "java/lang/Object")) (t' := (.object "com/example/vestwright/vestwright/run/RunRefusedException$Kind")) (by decide) (by decide) (by decide)
    · exact slot_ne (Or.inl (hw _ (List.mem_of_getElem? (i := 237) rfl))) (Or.inr (hw _ (List.mem_of_getElem? (i := 240) rfl))) (t := .int) (t' := (.object "com/example/vestwright/vestwright/run/RunRefusedException$Kind")) (by decide) (by decide) (by decide)
    · exact slot_ne (Or.inl (hw _ (List.mem_of_getElem? (i := 235) rfl))) (Or.inr (hw _ (List.mem_of_getElem? (i := 240) rfl))) (t := (.object "java/lang/String")) (t' := (.object "com/example/vestwright/vestwright/run/RunRefusedException$Kind")) (by decide) (by decide) (by decide)))
  replace K_ := K_.trans K_x (allS (Or.inl (by simp)) all0)
  have E_k := E'_
  have N_k := Ut_
  have F_k_detailMessage := Fm_
  have F_k_cause := Fc_
  refine s_aloadN X (pc' := 7) d34_6 rfl rfl rfl ?_
  refine s_aloadN X (pc' := 8) d34_7 rfl rfl rfl ?_
  refine s_putf X (pc' := 11) d34_8 (hw _ (List.mem_of_getElem? (i := 239) rfl)) Via.refl F_k_kind E_k (Or.inr ⟨(hw _ (List.mem_of_getElem? (i := 240) rfl)), rfl, rfl⟩) (hw _ (List.mem_of_getElem? (i := 208) rfl)) (ty := (.object "com/example/vestwright/vestwright/run/RunRefusedException$Kind")) (by decide) rfl rfl g_k (by simp) rfl (fun T h190 X W191 => ?_)
  replace F_k_kind := F_k_kind.same W191
  replace F_k_detailMessage := F_k_detailMessage.other W191 (Or.inr (slot_ne (Or.inl (hw _ (List.mem_of_getElem? (i := 235) rfl))) (Or.inr (hw _ (List.mem_of_getElem? (i := 240) rfl))) (t := (.object "java/lang/String")) (t' := (.object "com/example/vestwright/vestwright/run/RunRefusedException$Kind")) (by decide) (by decide) (by decide)))
  replace F_k_cause := F_k_cause.other W191 (Or.inr (slot_ne (Or.inl (hw _ (List.mem_of_getElem? (i := 230) rfl))) (Or.inr (hw _ (List.mem_of_getElem? (i := 240) rfl))) (t := (.object "java/lang/Throwable")) (t' := (.object "com/example/vestwright/vestwright/run/RunRefusedException$Kind")) (by decide) (by decide) (by decide)))
  replace E_k := E_k.wr W191
  replace N_k := Unt.wr W191 N_k
  replace K_ := K_.wr W191 (Or.inl (by simp))
  exact s_ret X hEL (ws' := []) d34_11 (by decide) (by decide) (fun x q => by simp at q) ⟨rfl, K_, E_k, N_k, F_k_kind, F_k_detailMessage, F_k_cause, rfl⟩
theorem d32_0 : decode prog_47_method_2_code 0 = .ok (.new 8, 3) := by decide +kernel
theorem d32_3 : decode prog_47_method_2_code 3 = .ok (.dup, 1) := by decide +kernel
theorem d32_4 : decode prog_47_method_2_code 4 = .ok (.getstatic 13, 3) := by decide +kernel
theorem d32_7 : decode prog_47_method_2_code 7 = .ok (.aload_n 0, 1) := by decide +kernel
theorem d32_8 : decode prog_47_method_2_code 8 = .ok (.invokevirtual 18, 3) := by decide +kernel
theorem d32_11 : decode prog_47_method_2_code 11 = .ok (.aload_n 0, 1) := by decide +kernel
theorem d32_12 : decode prog_47_method_2_code 12 = .ok (.invokespecial 24, 3) := by decide +kernel
theorem d32_15 : decode prog_47_method_2_code 15 = .ok (.areturn, 1) := by decide +kernel
theorem ef_own_of (m : MethodId) (k : Addr) : entryFrame m #[(.ref k)] 1 = mkF m 0 #[.val (.ref k)] [] := by first | (simp [entryFrame, mkF, argsToLocals, Value.category]; done) | rfl
set_option maxRecDepth 65536 in
set_option maxHeartbeats 40000000 in
theorem own_of (l : Launch) (Z : State) (a0 : Array Value) (hw : ∀ d ∈ tables_1, d.before a0 Z = true) (hEL : EW Z a0 consts_1) (k : Addr) (h : Heap) {kd mg : Addr} {us ss : Addr} (E_k : Exa Z h k "com/example/vestwright/vestwright/input/InputException") (F_k_detailMessage : Fld Z h k "java/lang/Throwable" "detailMessage" "Ljava/lang/String;" (.ref mg)) (Ik : Sta Z Z.heap "com/example/vestwright/vestwright/run/RunRefusedException$Kind" "INPUT" "Lcom/example/vestwright/vestwright/run/RunRefusedException$Kind;" (.ref kd)) (Us : Sta Z Z.heap "java/lang/Throwable" "UNASSIGNED_STACK" "[Ljava/lang/StackTraceElement;" (.ref us)) (Ss : Sta Z Z.heap "java/lang/Throwable" "SUPPRESSED_SENTINEL" "Ljava/util/List;" (.ref ss)) (hlt : l.stackTraces = true) :
    Con l Z consts_1 True (⟨"com/example/vestwright/vestwright/run/RunRefusedException", "of", "(Lcom/example/vestwright/vestwright/input/InputException;)Lcom/example/vestwright/vestwright/run/RunRefusedException;"⟩ : MethodName) prog_47_method_2_code 1 (some (.object "com/example/vestwright/vestwright/run/RunRefusedException")) ({ frames := 6, cells := 2, slots := 2759, locals := 90 } : Room) [] #[(.ref k)] h (fun v h' ws' => ∃ r, v = some (.ref r) ∧ Ext h h' ∧ k ≠ r ∧ Exa Z h' r "com/example/vestwright/vestwright/run/RunRefusedException" ∧ Unt h' r ∧ Fld Z h' r "com/example/vestwright/vestwright/run/RunRefusedException" "kind" "Lcom/example/vestwright/vestwright/run/RunRefusedException$Kind;" (.ref kd) ∧ Fld Z h' r "java/lang/Throwable" "detailMessage" "Ljava/lang/String;" (.ref mg) ∧ Fld Z h' r "java/lang/Throwable" "cause" "Ljava/lang/Throwable;" (.ref k) ∧ ws' = []) := by
  refine Con.intro own_pn51 (fun p e s m below meth c T X => ?_)
  rw [ef_own_of m k]
  have R_ : Ext h h := ext_refl _
  refine s_new X (pc' := 3) (k' := 1) (n' := 7) d32_0 (hw _ (List.mem_of_getElem? (i := 207) rfl)) (hw _ (List.mem_of_getElem? (i := 208) rfl)) (hw _ (List.mem_of_getElem? (i := 205) rfl)) (by decide) (by decide) (by decide) (by decide) rfl (fun T h193 b192 gb_b192 X' E194 E_b192 D_b192 U_b192 => ?_)
  have g_b192 : Z.heap.size ≤ b192 := by rw [gb_b192]; exact X.lt
  have ne_k_b192 : k ≠ b192 := Nat.ne_of_lt (by rw [gb_b192]; exact E_k.lt)
  have sz_R__b192 : h.size ≤ b192 := by rw [gb_b192]; exact R_.1
  replace E_k := E_k.ext E194
  replace F_k_detailMessage := F_k_detailMessage.ext E194
  replace R_ := ext_trans R_ E194
  replace X := X'
  have F_b192_cause : Fld Z h193 b192 "java/lang/Throwable" "cause" "Ljava/lang/Throwable;" .null := D_b192 (Or.inl (hw _ (List.mem_of_getElem? (i := 230) rfl))) (ty := (.object "java/lang/Throwable")) (by decide)
  have F_b192_stackTrace : Fld Z h193 b192 "java/lang/Throwable" "stackTrace" "[Ljava/lang/StackTraceElement;" .null := D_b192 (Or.inl (hw _ (List.mem_of_getElem? (i := 231) rfl))) (ty := (.array (.object "java/lang/StackTraceElement"))) (by decide)
  have F_b192_suppressedExceptions : Fld Z h193 b192 "java/lang/Throwable" "suppressedExceptions" "Ljava/util/List;" .null := D_b192 (Or.inl (hw _ (List.mem_of_getElem? (i := 232) rfl))) (ty := (.object "java/util/List")) (by decide)
  have F_b192_detailMessage : Fld Z h193 b192 "java/lang/Throwable" "detailMessage" "Ljava/lang/String;" .null := D_b192 (Or.inl (hw _ (List.mem_of_getElem? (i := 235) rfl))) (ty := (.object "java/lang/String")) (by decide)
  have F_b192_backtrace : Fld Z h193 b192 "java/lang/Throwable" "backtrace" "Ljava/lang/Object;" .null := D_b192 (Or.inl (hw _ (List.mem_of_getElem? (i := 236) rfl))) (ty := (.object "java/lang/Object")) (by decide)
  have F_b192_depth : Fld Z h193 b192 "java/lang/Throwable" "depth" "I" (.int (0 : Int32)) := D_b192 (Or.inl (hw _ (List.mem_of_getElem? (i := 237) rfl))) (ty := .int) (by decide)
  have F_b192_kind : Fld Z h193 b192 "com/example/vestwright/vestwright/run/RunRefusedException" "kind" "Lcom/example/vestwright/vestwright/run/RunRefusedException$Kind;" .null := D_b192 (Or.inr (hw _ (List.mem_of_getElem? (i := 240) rfl))) (ty := (.object "com/example/vestwright/vestwright/run/RunRefusedException$Kind")) (by decide)
  refine s_dup X (pc' := 4) d32_3 rfl rfl ?_
  refine s_gets X (pc' := 7) d32_4 (hw _ (List.mem_of_getElem? (i := 209) rfl)) Via.refl Ik rfl (fun T X => ?_)
  refine s_aloadN X (pc' := 8) d32_7 rfl rfl rfl ?_
  refine s_up X (pc' := 11) (W := 3) (as' := []) (S := [(.ref kd), (.ref b192), (.ref b192)]) (k' := 1) (n' := 7) d32_8 (hw _ (List.mem_of_getElem? (i := 212) rfl)) (hw _ (List.mem_of_getElem? (i := 213) rfl)) (hw _ (List.mem_of_getElem? (i := 214) rfl)) (hw _ (List.mem_of_getElem? (i := 216) rfl)) (hw _ (List.mem_of_getElem? (i := 215) rfl)) (by decide) own_pd22 rfl E_k ((own_gm l Z a0 hw hEL k _ F_k_detailMessage).payS (by simp) (hw _ (List.mem_of_getElem? (i := 217) rfl)) (hw _ (List.mem_of_getElem? (i := 158) rfl)) hEL (by decide) (by decide)) (Nat.le_of_ble_eq_true rfl) rfl rfl (by decide) (by decide) (by decide) (by decide) rfl (fun T h195 v_ ws_ X hgr_ q196 => ?_)
  obtain ⟨rfl, e_, rfl⟩ := q196
  rw [e_] at X
  show Go p e below _ T (mkF m 11 #[.val (.ref k)] [(.ref mg), (.ref kd), (.ref b192), (.ref b192)])
  replace X := X.sub (ws' := [b192]) (by simp)
  refine s_aloadN X (pc' := 12) d32_11 rfl rfl rfl ?_
  refine s_special X (pc' := 15) (W := 1) (as' := [(.ref kd), (.ref mg), (.ref k)]) (S := [(.ref b192)]) (k' := 2) (n' := 2759) d32_12 rfl (hw _ (List.mem_of_getElem? (i := 218) rfl)) (hw _ (List.mem_of_getElem? (i := 219) rfl)) (hw _ (List.mem_of_getElem? (i := 220) rfl)) (by decide) own_pd28 rfl ((own_ri l Z a0 hw hEL b192 kd mg k _ g_b192 E_b192 U_b192 F_b192_cause F_b192_stackTrace F_b192_suppressedExceptions F_b192_backtrace F_b192_detailMessage F_b192_kind Us Ss hlt).payS (by simp) (hw _ (List.mem_of_getElem? (i := 220) rfl)) (hw _ (List.mem_of_getElem? (i := 205) rfl)) hEL (by decide) (by decide)) (Nat.le_of_ble_eq_true rfl) rfl rfl (by decide) (by decide) (by decide) (by decide) rfl (fun T h197 v_ ws_ X hgr_ q198 => ?_)
  obtain ⟨rfl, K_, E'_, N'_, F1_, F2_, F3_, rfl⟩ := q198
  show Go p e below _ T (mkF m 15 #[.val (.ref k)] [(.ref b192)])
  replace X := X.sub (ws' := []) (by simp)
  replace R_ := ext_keep R_ K_ (allS sz_R__b192 all0)
  exact s_aret X hEL (ws' := []) (t := (.object "com/example/vestwright/vestwright/run/RunRefusedException")) d32_15 rfl rfl rfl rfl (by decide) (by decide) (fun x q => by simp at q) ⟨b192, rfl, R_, ne_k_b192, E'_, N'_, F1_, F2_, F3_, rfl⟩
theorem d40_0 : decode prog_47_method_9_code 0 = .ok (.aload_n 0, 1) := by decide +kernel
theorem d40_1 : decode prog_47_method_9_code 1 = .ok (.invokevirtual 97, 3) := by decide +kernel
theorem d40_4 : decode prog_47_method_9_code 4 = .ok (.checkcast 19, 3) := by decide +kernel
theorem d40_7 : decode prog_47_method_9_code 7 = .ok (.areturn, 1) := by decide +kernel
theorem ef_own_inp (m : MethodId) (k : Addr) : entryFrame m #[(.ref k)] 1 = mkF m 0 #[.val (.ref k)] [] := by first | (simp [entryFrame, mkF, argsToLocals, Value.category]; done) | rfl
set_option maxRecDepth 65536 in
set_option maxHeartbeats 40000000 in
theorem own_inp (l : Launch) (Z : State) (a0 : Array Value) (hw : ∀ d ∈ tables_1, d.before a0 Z = true) (hEL : EW Z a0 consts_1) (k : Addr) (h : Heap) {i : Addr} (E_k : Exa Z h k "com/example/vestwright/vestwright/run/RunRefusedException") (N_k : Unt h k) (F_k_cause : Fld Z h k "java/lang/Throwable" "cause" "Ljava/lang/Throwable;" (.ref i)) (E_i : Exa Z h i "com/example/vestwright/vestwright/input/InputException") (hne : i ≠ k) :
    Con l Z consts_1 True (⟨"com/example/vestwright/vestwright/run/RunRefusedException", "input", "()Lcom/example/vestwright/vestwright/input/InputException;"⟩ : MethodName) prog_47_method_9_code 1 (some (.object "com/example/vestwright/vestwright/input/InputException")) ({ frames := 1, cells := 0, slots := 0, locals := 12 } : Room) [] #[(.ref k)] h (fun v h' ws' => v = some (.ref i) ∧ h' = h ∧ ws' = []) := by
  refine Con.intro own_pn52 (fun p e s m below meth c T X => ?_)
  rw [ef_own_inp m k]
  refine s_aloadN X (pc' := 1) d40_0 rfl rfl rfl ?_
  refine s_up X (pc' := 4) (W := 0) (as' := []) (S := []) (k' := 0) (n' := 0) d40_1 (hw _ (List.mem_of_getElem? (i := 271) rfl)) (hw _ (List.mem_of_getElem? (i := 248) rfl)) (hw _ (List.mem_of_getElem? (i := 249) rfl)) (hw _ (List.mem_of_getElem? (i := 251) rfl)) (hw _ (List.mem_of_getElem? (i := 250) rfl)) (by decide) own_pd29 rfl E_k (gcPay (a0 := a0) hEL (show (Jvm.Cond.codeSync RoadKit.gcN RoadKit.gcB 1 (some (.object Bundle.tN))).before a0 Z = true from (hw _ (List.mem_of_getElem? (i := 252) rfl))) (hw _ (List.mem_of_getElem? (i := 250) rfl)) (hw _ (List.mem_of_getElem? (i := 158) rfl)) (hw _ (List.mem_of_getElem? (i := 161) rfl)) N_k F_k_cause rfl (fun z => hne (Value.ref.inj z)) (by decide) (by decide)) (Nat.le_of_ble_eq_true rfl) rfl rfl (by decide) (by decide) (by decide) (by decide) rfl (fun T h199 v_ ws_ X hgr_ q200 => ?_)
  obtain ⟨rfl, e_, rfl⟩ := q200
  rw [e_] at X
  show Go p e below _ T (mkF m 4 #[.val (.ref k)] [(.ref i)])
  replace X := X.sub (ws' := []) (by simp)
  refine s_castY X (pc' := 7) d40_4 (hw _ (List.mem_of_getElem? (i := 272) rfl)) (Ins.self E_i) rfl (fun T X => ?_)
  exact s_aret X hEL (ws' := []) (t := (.object "com/example/vestwright/vestwright/input/InputException")) d40_7 rfl rfl rfl rfl (by decide) (by decide) (fun x q => by simp at q) ⟨rfl, rfl, rfl⟩
theorem d39_0 : decode prog_47_method_6_code 0 = .ok (.aload_n 0, 1) := by decide +kernel
theorem d39_1 : decode prog_47_method_6_code 1 = .ok (.getfield 7, 3) := by decide +kernel
theorem d39_4 : decode prog_47_method_6_code 4 = .ok (.getstatic 13, 3) := by decide +kernel
theorem d39_7 : decode prog_47_method_6_code 7 = .ok (.if_acmp .ne 16, 3) := by decide +kernel
theorem d39_10 : decode prog_47_method_6_code 10 = .ok (.aload_n 0, 1) := by decide +kernel
theorem d39_11 : decode prog_47_method_6_code 11 = .ok (.invokevirtual 68, 3) := by decide +kernel
theorem d39_14 : decode prog_47_method_6_code 14 = .ok (.invokevirtual 72, 3) := by decide +kernel
theorem d39_17 : decode prog_47_method_6_code 17 = .ok (.invokestatic 75, 3) := by decide +kernel
theorem d39_20 : decode prog_47_method_6_code 20 = .ok (.goto 6, 3) := by decide +kernel
theorem d39_23 : decode prog_47_method_6_code 23 = .ok (.invokestatic 81, 3) := by decide +kernel
theorem d39_26 : decode prog_47_method_6_code 26 = .ok (.areturn, 1) := by decide +kernel
theorem ef_own_rf (m : MethodId) (k : Addr) : entryFrame m #[(.ref k)] 1 = mkF m 0 #[.val (.ref k)] [] := by first | (simp [entryFrame, mkF, argsToLocals, Value.category]; done) | rfl
set_option maxRecDepth 65536 in
set_option maxHeartbeats 40000000 in
theorem own_rf (l : Launch) (Z : State) (a0 : Array Value) (hw : ∀ d ∈ tables_1, d.before a0 Z = true) (hEL : EW Z a0 consts_1) (k : Addr) (h : Heap) {i : Addr} (E_k : Exa Z h k "com/example/vestwright/vestwright/run/RunRefusedException") (N_k : Unt h k) (F_k_cause : Fld Z h k "java/lang/Throwable" "cause" "Ljava/lang/Throwable;" (.ref i)) (E_i : Exa Z h i "com/example/vestwright/vestwright/input/InputException") (hne : i ≠ k) {f : Addr} (F_i_file : Fld Z h i "com/example/vestwright/vestwright/input/InputException" "file" "Ljava/lang/String;" (.ref f)) {kd : Addr} (F_k_kind : Fld Z h k "com/example/vestwright/vestwright/run/RunRefusedException" "kind" "Lcom/example/vestwright/vestwright/run/RunRefusedException$Kind;" (.ref kd)) (Ik : Sta Z Z.heap "com/example/vestwright/vestwright/run/RunRefusedException$Kind" "INPUT" "Lcom/example/vestwright/vestwright/run/RunRefusedException$Kind;" (.ref kd)) :
    Con l Z consts_1 True (⟨"com/example/vestwright/vestwright/run/RunRefusedException", "file", "()Ljava/util/Optional;"⟩ : MethodName) prog_47_method_6_code 1 (some (.object "java/util/Optional")) ({ frames := 3, cells := 1, slots := 1, locals := 38 } : Room) [] #[(.ref k)] h (fun v h' ws' => ∃ o, v = some (.ref o) ∧ Ext h h' ∧ Exa Z h' o "java/util/Optional" ∧ Fld Z h' o "java/util/Optional" "value" "Ljava/lang/Object;" (.ref f) ∧ ws' = []) := by
  refine Con.intro own_pn53 (fun p e s m below meth c T X => ?_)
  rw [ef_own_rf m k]
  refine s_aloadN X (pc' := 1) d39_0 rfl rfl rfl ?_
  refine s_getf X (pc' := 4) d39_1 (hw _ (List.mem_of_getElem? (i := 239) rfl)) Via.refl F_k_kind rfl (fun T X => ?_)
  refine s_gets X (pc' := 7) d39_4 (hw _ (List.mem_of_getElem? (i := 209) rfl)) Via.refl Ik rfl (fun T X => ?_)
  refine s_acmpF X (pc' := 10) d39_7 rfl rfl (by simp [XT.acmp]) rfl ?_
  refine s_aloadN X (pc' := 11) d39_10 rfl rfl rfl ?_
  refine s_priv X (pc' := 14) (W := 0) (as' := []) (S := []) (k' := 0) (n' := 0) d39_11 (hw _ (List.mem_of_getElem? (i := 267) rfl)) (hw _ (List.mem_of_getElem? (i := 269) rfl)) (nfaceC (hw _ (List.mem_of_getElem? (i := 244) rfl)) rfl) (hw _ (List.mem_of_getElem? (i := 268) rfl)) (hw _ (List.mem_of_getElem? (i := 270) rfl)) (by decide) own_pd30 rfl E_k ((own_inp l Z a0 hw hEL k _ E_k N_k F_k_cause E_i hne).payS (by simp) (hw _ (List.mem_of_getElem? (i := 270) rfl)) (hw _ (List.mem_of_getElem? (i := 205) rfl)) hEL (by decide) (by decide)) (Nat.le_of_ble_eq_true rfl) rfl rfl (by decide) (by decide) (by decide) (by decide) rfl (fun T h201 v_ ws_ X hgr_ q202 => ?_)
  obtain ⟨rfl, e_, rfl⟩ := q202
  rw [e_] at X
  show Go p e below _ T (mkF m 14 #[.val (.ref k)] [(.ref i)])
  replace X := X.sub (ws' := []) (by simp)
  refine s_virtual X (pc' := 17) (W := 0) (as' := []) (S := []) (k' := 0) (n' := 0) d39_14 (hw _ (List.mem_of_getElem? (i := 273) rfl)) (hw _ (List.mem_of_getElem? (i := 274) rfl)) (hw _ (List.mem_of_getElem? (i := 276) rfl)) (hw _ (List.mem_of_getElem? (i := 275) rfl)) (nface (hw _ (List.mem_of_getElem? (i := 276) rfl))) (by decide) own_pd22 rfl E_i ((own_if l Z a0 hw hEL i _ F_i_file).payS (by simp) (hw _ (List.mem_of_getElem? (i := 277) rfl)) (hw _ (List.mem_of_getElem? (i := 32) rfl)) hEL (by decide) (by decide)) (Nat.le_of_ble_eq_true rfl) rfl rfl (by decide) (by decide) (by decide) (by decide) rfl (fun T h203 v_ ws_ X hgr_ q204 => ?_)
  obtain ⟨rfl, e_, rfl⟩ := q204
  rw [e_] at X
  show Go p e below _ T (mkF m 17 #[.val (.ref k)] [(.ref f)])
  replace X := X.sub (ws' := []) (by simp)
  refine s_static X (pc' := 20) (W := 0) (as' := [(.ref f)]) (S := []) (k' := 1) (n' := 1) d39_17 (hw _ (List.mem_of_getElem? (i := 278) rfl)) (hw _ (List.mem_of_getElem? (i := 279) rfl)) (hw _ (List.mem_of_getElem? (i := 280) rfl)) (hw _ (List.mem_of_getElem? (i := 281) rfl)) (by decide) own_pd31 rfl ((own_oo l Z a0 hw hEL f _).payS (by simp) (hw _ (List.mem_of_getElem? (i := 281) rfl)) (hw _ (List.mem_of_getElem? (i := 280) rfl)) hEL (by decide) (by decide)) (Nat.le_of_ble_eq_true rfl) rfl rfl (by decide) (by decide) (by decide) (by decide) rfl (fun T h205 v_ ws_ X hgr_ q206 => ?_)
  obtain ⟨o, rfl, E_, E_o, F_o, rfl⟩ := q206
  show Go p e below _ T (mkF m 20 #[.val (.ref k)] [(.ref o)])
  replace X := X.sub (ws' := []) (by simp)
  refine s_goto X (pc' := 26) d39_20 (by decide) (by decide) ?_
  exact s_aret X hEL (ws' := []) (t := (.object "java/util/Optional")) d39_26 rfl rfl rfl rfl (by decide) (by decide) (fun x q => by simp at q) ⟨o, rfl, E_, E_o, F_o, rfl⟩
theorem d47_0 : decode prog_47_method_8_code 0 = .ok (.aload_n 0, 1) := by decide +kernel
theorem d47_1 : decode prog_47_method_8_code 1 = .ok (.getfield 7, 3) := by decide +kernel
theorem d47_4 : decode prog_47_method_8_code 4 = .ok (.getstatic 13, 3) := by decide +kernel
theorem d47_7 : decode prog_47_method_8_code 7 = .ok (.if_acmp .ne 13, 3) := by decide +kernel
theorem d47_10 : decode prog_47_method_8_code 10 = .ok (.aload_n 0, 1) := by decide +kernel
theorem d47_11 : decode prog_47_method_8_code 11 = .ok (.invokevirtual 68, 3) := by decide +kernel
theorem d47_14 : decode prog_47_method_8_code 14 = .ok (.invokevirtual 93, 3) := by decide +kernel
theorem d47_17 : decode prog_47_method_8_code 17 = .ok (.goto 7, 3) := by decide +kernel
theorem d47_20 : decode prog_47_method_8_code 20 = .ok (.aload_n 0, 1) := by decide +kernel
theorem d47_21 : decode prog_47_method_8_code 21 = .ok (.invokevirtual 96, 3) := by decide +kernel
theorem d47_24 : decode prog_47_method_8_code 24 = .ok (.areturn, 1) := by decide +kernel
theorem ef_own_rr (m : MethodId) (k : Addr) : entryFrame m #[(.ref k)] 1 = mkF m 0 #[.val (.ref k)] [] := by first | (simp [entryFrame, mkF, argsToLocals, Value.category]; done) | rfl
set_option maxRecDepth 65536 in
set_option maxHeartbeats 40000000 in
theorem own_rr (l : Launch) (Z : State) (a0 : Array Value) (hw : ∀ d ∈ tables_1, d.before a0 Z = true) (hEL : EW Z a0 consts_1) (k : Addr) (h : Heap) {i : Addr} (E_k : Exa Z h k "com/example/vestwright/vestwright/run/RunRefusedException") (N_k : Unt h k) (F_k_cause : Fld Z h k "java/lang/Throwable" "cause" "Ljava/lang/Throwable;" (.ref i)) (E_i : Exa Z h i "com/example/vestwright/vestwright/input/InputException") (hne : i ≠ k) {f : Addr} (F_i_reason : Fld Z h i "com/example/vestwright/vestwright/input/InputException" "reason" "Ljava/lang/String;" (.ref f)) {kd : Addr} (F_k_kind : Fld Z h k "com/example/vestwright/vestwright/run/RunRefusedException" "kind" "Lcom/example/vestwright/vestwright/run/RunRefusedException$Kind;" (.ref kd)) (Ik : Sta Z Z.heap "com/example/vestwright/vestwright/run/RunRefusedException$Kind" "INPUT" "Lcom/example/vestwright/vestwright/run/RunRefusedException$Kind;" (.ref kd)) :
    Con l Z consts_1 True (⟨"com/example/vestwright/vestwright/run/RunRefusedException", "reason", "()Ljava/lang/String;"⟩ : MethodName) prog_47_method_8_code 1 (some (.object "java/lang/String")) ({ frames := 2, cells := 0, slots := 0, locals := 24 } : Room) [] #[(.ref k)] h (fun v h' ws' => v = some (.ref f) ∧ h' = h ∧ ws' = []) := by
  refine Con.intro own_pn54 (fun p e s m below meth c T X => ?_)
  rw [ef_own_rr m k]
  refine s_aloadN X (pc' := 1) d47_0 rfl rfl rfl ?_
  refine s_getf X (pc' := 4) d47_1 (hw _ (List.mem_of_getElem? (i := 239) rfl)) Via.refl F_k_kind rfl (fun T X => ?_)
  refine s_gets X (pc' := 7) d47_4 (hw _ (List.mem_of_getElem? (i := 209) rfl)) Via.refl Ik rfl (fun T X => ?_)
  refine s_acmpF X (pc' := 10) d47_7 rfl rfl (by simp [XT.acmp]) rfl ?_
  refine s_aloadN X (pc' := 11) d47_10 rfl rfl rfl ?_
  refine s_priv X (pc' := 14) (W := 0) (as' := []) (S := []) (k' := 0) (n' := 0) d47_11 (hw _ (List.mem_of_getElem? (i := 267) rfl)) (hw _ (List.mem_of_getElem? (i := 269) rfl)) (nfaceC (hw _ (List.mem_of_getElem? (i := 244) rfl)) rfl) (hw _ (List.mem_of_getElem? (i := 268) rfl)) (hw _ (List.mem_of_getElem? (i := 270) rfl)) (by decide) own_pd30 rfl E_k ((own_inp l Z a0 hw hEL k _ E_k N_k F_k_cause E_i hne).payS (by simp) (hw _ (List.mem_of_getElem? (i := 270) rfl)) (hw _ (List.mem_of_getElem? (i := 205) rfl)) hEL (by decide) (by decide)) (Nat.le_of_ble_eq_true rfl) rfl rfl (by decide) (by decide) (by decide) (by decide) rfl (fun T h207 v_ ws_ X hgr_ q208 => ?_)
  obtain ⟨rfl, e_, rfl⟩ := q208
  rw [e_] at X
  show Go p e below _ T (mkF m 14 #[.val (.ref k)] [(.ref i)])
  replace X := X.sub (ws' := []) (by simp)
  refine s_virtual X (pc' := 17) (W := 0) (as' := []) (S := []) (k' := 0) (n' := 0) d47_14 (hw _ (List.mem_of_getElem? (i := 310) rfl)) (hw _ (List.mem_of_getElem? (i := 311) rfl)) (hw _ (List.mem_of_getElem? (i := 313) rfl)) (hw _ (List.mem_of_getElem? (i := 312) rfl)) (nface (hw _ (List.mem_of_getElem? (i := 313) rfl))) (by decide) own_pd22 rfl E_i ((own_ir l Z a0 hw hEL i _ F_i_reason).payS (by simp) (hw _ (List.mem_of_getElem? (i := 314) rfl)) (hw _ (List.mem_of_getElem? (i := 32) rfl)) hEL (by decide) (by decide)) (Nat.le_of_ble_eq_true rfl) rfl rfl (by decide) (by decide) (by decide) (by decide) rfl (fun T h209 v_ ws_ X hgr_ q210 => ?_)
  obtain ⟨rfl, e_, rfl⟩ := q210
  rw [e_] at X
  show Go p e below _ T (mkF m 17 #[.val (.ref k)] [(.ref f)])
  replace X := X.sub (ws' := []) (by simp)
  refine s_goto X (pc' := 24) d47_17 (by decide) (by decide) ?_
  exact s_aret X hEL (ws' := []) (t := (.object "java/lang/String")) d47_24 rfl rfl rfl rfl (by decide) (by decide) (fun x q => by simp at q) ⟨rfl, rfl, rfl⟩
theorem d49_0 : decode prog_47_method_7_code 0 = .ok (.aload_n 0, 1) := by decide +kernel
theorem d49_1 : decode prog_47_method_7_code 1 = .ok (.getfield 7, 3) := by decide +kernel
theorem d49_4 : decode prog_47_method_7_code 4 = .ok (.getstatic 13, 3) := by decide +kernel
theorem d49_7 : decode prog_47_method_7_code 7 = .ok (.if_acmp .ne 13, 3) := by decide +kernel
theorem d49_10 : decode prog_47_method_7_code 10 = .ok (.aload_n 0, 1) := by decide +kernel
theorem d49_11 : decode prog_47_method_7_code 11 = .ok (.invokevirtual 68, 3) := by decide +kernel
theorem d49_14 : decode prog_47_method_7_code 14 = .ok (.invokevirtual 85, 3) := by decide +kernel
theorem d49_17 : decode prog_47_method_7_code 17 = .ok (.goto 6, 3) := by decide +kernel
theorem d49_20 : decode prog_47_method_7_code 20 = .ok (.invokestatic 89, 3) := by decide +kernel
theorem d49_23 : decode prog_47_method_7_code 23 = .ok (.areturn, 1) := by decide +kernel
theorem ef_own_rl0 (m : MethodId) (k : Addr) : entryFrame m #[(.ref k)] 1 = mkF m 0 #[.val (.ref k)] [] := by first | (simp [entryFrame, mkF, argsToLocals, Value.category]; done) | rfl
set_option maxRecDepth 65536 in
set_option maxHeartbeats 40000000 in
theorem own_rl0 (l : Launch) (Z : State) (a0 : Array Value) (hw : ∀ d ∈ tables_1, d.before a0 Z = true) (hEL : EW Z a0 consts_1) (k : Addr) (h : Heap) {i : Addr} (E_k : Exa Z h k "com/example/vestwright/vestwright/run/RunRefusedException") (N_k : Unt h k) (F_k_cause : Fld Z h k "java/lang/Throwable" "cause" "Ljava/lang/Throwable;" (.ref i)) (E_i : Exa Z h i "com/example/vestwright/vestwright/input/InputException") (hne : i ≠ k) {oe : Addr} (F_i_line : Fld Z h i "com/example/vestwright/vestwright/input/InputException" "line" "I" (.int (0 : Int32))) {kd : Addr} (F_k_kind : Fld Z h k "com/example/vestwright/vestwright/run/RunRefusedException" "kind" "Lcom/example/vestwright/vestwright/run/RunRefusedException$Kind;" (.ref kd)) (Ik : Sta Z Z.heap "com/example/vestwright/vestwright/run/RunRefusedException$Kind" "INPUT" "Lcom/example/vestwright/vestwright/run/RunRefusedException$Kind;" (.ref kd)) (Oo : Sta Z Z.heap "java/util/OptionalInt" "EMPTY" "Ljava/util/OptionalInt;" (.ref oe)) (Xo : Exa Z Z.heap oe "java/util/OptionalInt") (Fo : Fld Z Z.heap oe "java/util/OptionalInt" "isPresent" "Z" (.int (0 : Int32))) :
    Con l Z consts_1 True (⟨"com/example/vestwright/vestwright/run/RunRefusedException", "line", "()Ljava/util/OptionalInt;"⟩ : MethodName) prog_47_method_7_code 1 (some (.object "java/util/OptionalInt")) ({ frames := 2, cells := 0, slots := 0, locals := 24 } : Room) [] #[(.ref k)] h (fun v h' ws' => v = some (.ref oe) ∧ h' = h ∧ ws' = []) := by
  refine Con.intro own_pn55 (fun p e s m below meth c T X => ?_)
  rw [ef_own_rl0 m k]
  refine s_aloadN X (pc' := 1) d49_0 rfl rfl rfl ?_
  refine s_getf X (pc' := 4) d49_1 (hw _ (List.mem_of_getElem? (i := 239) rfl)) Via.refl F_k_kind rfl (fun T X => ?_)
  refine s_gets X (pc' := 7) d49_4 (hw _ (List.mem_of_getElem? (i := 209) rfl)) Via.refl Ik rfl (fun T X => ?_)
  refine s_acmpF X (pc' := 10) d49_7 rfl rfl (by simp [XT.acmp]) rfl ?_
  refine s_aloadN X (pc' := 11) d49_10 rfl rfl rfl ?_
  refine s_priv X (pc' := 14) (W := 0) (as' := []) (S := []) (k' := 0) (n' := 0) d49_11 (hw _ (List.mem_of_getElem? (i := 267) rfl)) (hw _ (List.mem_of_getElem? (i := 269) rfl)) (nfaceC (hw _ (List.mem_of_getElem? (i := 244) rfl)) rfl) (hw _ (List.mem_of_getElem? (i := 268) rfl)) (hw _ (List.mem_of_getElem? (i := 270) rfl)) (by decide) own_pd30 rfl E_k ((own_inp l Z a0 hw hEL k _ E_k N_k F_k_cause E_i hne).payS (by simp) (hw _ (List.mem_of_getElem? (i := 270) rfl)) (hw _ (List.mem_of_getElem? (i := 205) rfl)) hEL (by decide) (by decide)) (Nat.le_of_ble_eq_true rfl) rfl rfl (by decide) (by decide) (by decide) (by decide) rfl (fun T h211 v_ ws_ X hgr_ q212 => ?_)
  obtain ⟨rfl, e_, rfl⟩ := q212
  rw [e_] at X
  show Go p e below _ T (mkF m 14 #[.val (.ref k)] [(.ref i)])
  replace X := X.sub (ws' := []) (by simp)
  refine s_virtual X (pc' := 17) (W := 0) (as' := []) (S := []) (k' := 0) (n' := 0) d49_14 (hw _ (List.mem_of_getElem? (i := 320) rfl)) (hw _ (List.mem_of_getElem? (i := 321) rfl)) (hw _ (List.mem_of_getElem? (i := 323) rfl)) (hw _ (List.mem_of_getElem? (i := 322) rfl)) (nface (hw _ (List.mem_of_getElem? (i := 323) rfl))) (by decide) own_pd23 rfl E_i ((own_line0 l Z a0 hw hEL i _ F_i_line Oo Xo Fo).payS (by simp) (hw _ (List.mem_of_getElem? (i := 324) rfl)) (hw _ (List.mem_of_getElem? (i := 32) rfl)) hEL (by decide) (by decide)) (Nat.le_of_ble_eq_true rfl) rfl rfl (by decide) (by decide) (by decide) (by decide) rfl (fun T h213 v_ ws_ X hgr_ q214 => ?_)
  obtain ⟨rfl, e_, rfl⟩ := q214
  rw [e_] at X
  show Go p e below _ T (mkF m 17 #[.val (.ref k)] [(.ref oe)])
  replace X := X.sub (ws' := []) (by simp)
  refine s_goto X (pc' := 23) d49_17 (by decide) (by decide) ?_
  exact s_aret X hEL (ws' := []) (t := (.object "java/util/OptionalInt")) d49_23 rfl rfl rfl rfl (by decide) (by decide) (fun x q => by simp at q) ⟨rfl, rfl, rfl⟩
theorem ef_own_rl1 (m : MethodId) (k : Addr) (_x : Int32) : entryFrame m #[(.ref k)] 1 = mkF m 0 #[.val (.ref k)] [] := by first | (simp [entryFrame, mkF, argsToLocals, Value.category]; done) | rfl
set_option maxRecDepth 65536 in
set_option maxHeartbeats 40000000 in
theorem own_rl1 (l : Launch) (Z : State) (a0 : Array Value) (hw : ∀ d ∈ tables_1, d.before a0 Z = true) (hEL : EW Z a0 consts_1) (k : Addr) (x : Int32) (h : Heap) {i : Addr} (E_k : Exa Z h k "com/example/vestwright/vestwright/run/RunRefusedException") (N_k : Unt h k) (F_k_cause : Fld Z h k "java/lang/Throwable" "cause" "Ljava/lang/Throwable;" (.ref i)) (E_i : Exa Z h i "com/example/vestwright/vestwright/input/InputException") (hne : i ≠ k) (F_i_line : Fld Z h i "com/example/vestwright/vestwright/input/InputException" "line" "I" (.int x)) (hx : ¬ x = (0 : Int32)) {kd : Addr} (F_k_kind : Fld Z h k "com/example/vestwright/vestwright/run/RunRefusedException" "kind" "Lcom/example/vestwright/vestwright/run/RunRefusedException$Kind;" (.ref kd)) (Ik : Sta Z Z.heap "com/example/vestwright/vestwright/run/RunRefusedException$Kind" "INPUT" "Lcom/example/vestwright/vestwright/run/RunRefusedException$Kind;" (.ref kd)) :
    Con l Z consts_1 True (⟨"com/example/vestwright/vestwright/run/RunRefusedException", "line", "()Ljava/util/OptionalInt;"⟩ : MethodName) prog_47_method_7_code 1 (some (.object "java/util/OptionalInt")) ({ frames := 4, cells := 1, slots := 2, locals := 50 } : Room) [] #[(.ref k)] h (fun v h' ws' => ∃ o, v = some (.ref o) ∧ Ext h h' ∧ Exa Z h' o "java/util/OptionalInt" ∧ Fld Z h' o "java/util/OptionalInt" "isPresent" "Z" (.int (1 : Int32)) ∧ Fld Z h' o "java/util/OptionalInt" "value" "I" (.int x) ∧ ws' = []) := by
  refine Con.intro own_pn55 (fun p e s m below meth c T X => ?_)
  rw [ef_own_rl1 m k x]
  refine s_aloadN X (pc' := 1) d49_0 rfl rfl rfl ?_
  refine s_getf X (pc' := 4) d49_1 (hw _ (List.mem_of_getElem? (i := 239) rfl)) Via.refl F_k_kind rfl (fun T X => ?_)
  refine s_gets X (pc' := 7) d49_4 (hw _ (List.mem_of_getElem? (i := 209) rfl)) Via.refl Ik rfl (fun T X => ?_)
  refine s_acmpF X (pc' := 10) d49_7 rfl rfl (by simp [XT.acmp]) rfl ?_
  refine s_aloadN X (pc' := 11) d49_10 rfl rfl rfl ?_
  refine s_priv X (pc' := 14) (W := 0) (as' := []) (S := []) (k' := 0) (n' := 0) d49_11 (hw _ (List.mem_of_getElem? (i := 267) rfl)) (hw _ (List.mem_of_getElem? (i := 269) rfl)) (nfaceC (hw _ (List.mem_of_getElem? (i := 244) rfl)) rfl) (hw _ (List.mem_of_getElem? (i := 268) rfl)) (hw _ (List.mem_of_getElem? (i := 270) rfl)) (by decide) own_pd30 rfl E_k ((own_inp l Z a0 hw hEL k _ E_k N_k F_k_cause E_i hne).payS (by simp) (hw _ (List.mem_of_getElem? (i := 270) rfl)) (hw _ (List.mem_of_getElem? (i := 205) rfl)) hEL (by decide) (by decide)) (Nat.le_of_ble_eq_true rfl) rfl rfl (by decide) (by decide) (by decide) (by decide) rfl (fun T h215 v_ ws_ X hgr_ q216 => ?_)
  obtain ⟨rfl, e_, rfl⟩ := q216
  rw [e_] at X
  show Go p e below _ T (mkF m 14 #[.val (.ref k)] [(.ref i)])
  replace X := X.sub (ws' := []) (by simp)
  refine s_virtual X (pc' := 17) (W := 0) (as' := []) (S := []) (k' := 1) (n' := 2) d49_14 (hw _ (List.mem_of_getElem? (i := 320) rfl)) (hw _ (List.mem_of_getElem? (i := 321) rfl)) (hw _ (List.mem_of_getElem? (i := 323) rfl)) (hw _ (List.mem_of_getElem? (i := 322) rfl)) (nface (hw _ (List.mem_of_getElem? (i := 323) rfl))) (by decide) own_pd23 rfl E_i ((own_line1 l Z a0 hw hEL i x _ F_i_line hx).payS (by simp) (hw _ (List.mem_of_getElem? (i := 324) rfl)) (hw _ (List.mem_of_getElem? (i := 32) rfl)) hEL (by decide) (by decide)) (Nat.le_of_ble_eq_true rfl) rfl rfl (by decide) (by decide) (by decide) (by decide) rfl (fun T h217 v_ ws_ X hgr_ q218 => ?_)
  obtain ⟨o, rfl, E_, E_o, F1_, F2_, rfl⟩ := q218
  show Go p e below _ T (mkF m 17 #[.val (.ref k)] [(.ref o)])
  replace X := X.sub (ws' := []) (by simp)
  refine s_goto X (pc' := 23) d49_17 (by decide) (by decide) ?_
  exact s_aret X hEL (ws' := []) (t := (.object "java/util/OptionalInt")) d49_23 rfl rfl rfl rfl (by decide) (by decide) (fun x q => by simp at q) ⟨o, rfl, E_, E_o, F1_, F2_, rfl⟩
theorem ef_own_law (m : MethodId) (xa : Int32) (xb : Int32) (ln : Int32) (xf : Int32) : entryFrame m #[(.int xa), (.int xb), (.int ln), (.int xf)] maxLocals = mkF m 0 #[.val (.int xa), .val (.int xb), .val (.int ln), .val (.int xf), .unset, .unset, .unset, .unset, .unset, .unset, .unset, .unset, .unset, .unset] [] := by first | (simp [entryFrame, mkF, argsToLocals, Value.category, maxLocals]; done) | rfl
set_option maxRecDepth 65536 in
set_option maxHeartbeats 40000000 in
theorem own_law (l : Launch) (Z : State) (a0 : Array Value) (hw : ∀ d ∈ tables_1, d.before a0 Z = true) (hEL : EW Z a0 consts_1) (xa : Int32) (xb : Int32) (ln : Int32) (xf : Int32) (h : Heap) {G1 : Int32} {dO dT : Addr} {vO vT : List Value} {us ss : Addr} {oe kd : Addr} (O2 : Sta Z Z.heap "java/lang/String" "COMPACT_STRINGS" "Z" (.int G1)) (P5 : ¬ (G1 = (0 : Int32))) (Us : Sta Z Z.heap "java/lang/Throwable" "UNASSIGNED_STACK" "[Ljava/lang/StackTraceElement;" (.ref us)) (Ss : Sta Z Z.heap "java/lang/Throwable" "SUPPRESSED_SENTINEL" "Ljava/util/List;" (.ref ss)) (hlt : l.stackTraces = true) (dg : Digs Z dO dT vO vT) (Oo : Sta Z Z.heap "java/util/OptionalInt" "EMPTY" "Ljava/util/OptionalInt;" (.ref oe)) (Xo : Exa Z Z.heap oe "java/util/OptionalInt") (Fo : Fld Z Z.heap oe "java/util/OptionalInt" "isPresent" "Z" (.int (0 : Int32))) (Ik : Sta Z Z.heap "com/example/vestwright/vestwright/run/RunRefusedException$Kind" "INPUT" "Lcom/example/vestwright/vestwright/run/RunRefusedException$Kind;" (.ref kd)) :
    Con l Z consts_1 True x code maxLocals ret room_1 [] #[(.int xa), (.int xb), (.int ln), (.int xf)] h (fun v h' ws' => v = some (.int 1)) := by
  refine Con.intro own_pn56 (fun p e s m below meth c T X => ?_)
  rw [ef_own_law m xa xb ln xf]
  refine s_iloadN X (pc' := 1) at_0 rfl rfl ?_
  refine s_iconst X (pc' := 2) at_1 (v := (2 : Int32)) rfl rfl ?_
  refine s_iand X (pc' := 3) at_2 rfl ?_
  refine jn (A := ∀ T h1 (f0 : Addr) (fs : List Int32), Str Z h1 f0 fs → Lat fs → fs.length ≤ 2 → Cx p l e room_1 s m #[(.int xa), (.int xb), (.int ln), (.int xf)] below meth c Z consts_1 True x code maxLocals ret [] T h1 8 24 → Go p e below (Post Z consts_1 s room_1 (fun v h' ws' => v = some (.int 1))) T (mkF m 42 #[.val (.int xa), .val (.int xb), .val (.int ln), .val (.int xf), .unset, .unset, .unset, .unset, .unset, .unset, .unset, .unset, .unset, .unset] [.ref f0])) (fun J => ?_) (fun T h1 f0 fs S_f0 hfs hfl X => ?_)
  · refine s_if X (pc' := 11) (pcF := 6) at_3 (by decide) (by decide) rfl (fun (q1 : (xf &&& (2 : Int32)) = (0 : Int32)) => ?_) (fun (q1 : ¬ (xf &&& (2 : Int32)) = (0 : Int32)) => ?_)
    · refine s_new X (pc' := 14) (k' := 1) (n' := 4) at_11 (hw _ (List.mem_of_getElem? (i := 0) rfl)) (hw _ (List.mem_of_getElem? (i := 1) rfl)) (hw _ (List.mem_of_getElem? (i := 2) rfl)) (by decide) (by decide) (by decide) (by decide) rfl (fun T h222 b221 gb_b221 X' E223 E_b221 D_b221 U_b221 => ?_)
      have g_b221 : Z.heap.size ≤ b221 := by rw [gb_b221]; exact X.lt
      replace X := X'
      have F_b221_coder : Fld Z h222 b221 "java/lang/String" "coder" "B" (.int (0 : Int32)) := D_b221 (Or.inr (hw _ (List.mem_of_getElem? (i := 27) rfl))) (ty := .byte) (by decide)
      have F_b221_value : Fld Z h222 b221 "java/lang/String" "value" "[B" .null := D_b221 (Or.inr (hw _ (List.mem_of_getElem? (i := 29) rfl))) (ty := (.array .byte)) (by decide)
      refine s_dup X (pc' := 15) at_14 rfl rfl ?_
      refine s_iconst X (pc' := 16) at_15 (v := (2 : Int32)) rfl rfl ?_
      refine s_newarr X (pc' := 18) (k' := 2) (n' := 6) (N := 2) at_16 (hw _ (List.mem_of_getElem? (i := 3) rfl)) rfl (by decide) (by decide) (by decide) (by decide) (by decide) rfl (fun T h225 b224 gb_b224 X' E226 A_b224 => ?_)
      have g_b224 : Z.heap.size ≤ b224 := by rw [gb_b224]; exact X.lt
      have ne_b221_b224 : b221 ≠ b224 := Nat.ne_of_lt (by rw [gb_b224]; exact E_b221.lt)
      replace E_b221 := E_b221.ext E226
      replace F_b221_coder := F_b221_coder.ext E226
      replace F_b221_value := F_b221_value.ext E226
      replace X := X'
      replace A_b224 : Ary Z h225 b224 .char [(.int (0 : Int32)), (.int (0 : Int32))] := A_b224
      refine s_dup X (pc' := 19) at_18 rfl rfl ?_
      refine s_iconst X (pc' := 20) at_19 (v := (0 : Int32)) rfl rfl ?_
      refine s_iloadN X (pc' := 21) at_20 rfl rfl ?_
      refine s_sipush X (pc' := 24) at_21 (v := (255 : Int32)) (by decide) rfl ?_
      refine s_iand X (pc' := 25) at_24 rfl ?_
      refine s_i2c X (pc' := 26) at_25 rfl ?_
      refine s_castore X (pc' := 27) (i := 0) at_26 A_b224 rfl (Nat.le_of_ble_eq_true rfl) g_b224 (by simp) rfl (fun T h227 X W228 A' => ?_)
      replace F_b221_coder := F_b221_coder.other W228 (Or.inl ne_b221_b224)
      replace F_b221_value := F_b221_value.other W228 (Or.inl ne_b221_b224)
      replace E_b221 := E_b221.wr W228
      replace A_b224 : Ary Z h227 b224 .char [(.int (nar .char (xa &&& (255 : Int32)).toUInt32.toUInt16.toUInt32.toInt32)), (.int (0 : Int32))] := A'
      refine s_dup X (pc' := 28) at_27 rfl rfl ?_
      refine s_iconst X (pc' := 29) at_28 (v := (1 : Int32)) rfl rfl ?_
      refine s_iloadN X (pc' := 30) at_29 rfl rfl ?_
      refine s_bipush X (pc' := 32) at_30 (v := (8 : Int32)) (by decide) rfl ?_
      refine s_iushr X (pc' := 33) at_32 rfl ?_
      refine s_sipush X (pc' := 36) at_33 (v := (255 : Int32)) (by decide) rfl ?_
      refine s_iand X (pc' := 37) at_36 rfl ?_
      refine s_i2c X (pc' := 38) at_37 rfl ?_
      refine s_castore X (pc' := 39) (i := 1) at_38 A_b224 rfl (Nat.le_of_ble_eq_true rfl) g_b224 (by simp) rfl (fun T h229 X W230 A' => ?_)
      replace F_b221_coder := F_b221_coder.other W230 (Or.inl ne_b221_b224)
      replace F_b221_value := F_b221_value.other W230 (Or.inl ne_b221_b224)
      replace E_b221 := E_b221.wr W230
      replace A_b224 : Ary Z h229 b224 .char [(.int (nar .char (xa &&& (255 : Int32)).toUInt32.toUInt16.toUInt32.toInt32)), (.int (nar .char (((xa.toUInt32 >>> ((8 : Int32) &&& 31).toUInt32).toInt32) &&& (255 : Int32)).toUInt32.toUInt16.toUInt32.toInt32))] := A'
      refine s_special X (pc' := 42) (W := 1) (as' := [(.ref b224)]) (S := [(.ref b221)]) (k' := 3) (n' := 8) at_39 rfl (hw _ (List.mem_of_getElem? (i := 4) rfl)) (hw _ (List.mem_of_getElem? (i := 5) rfl)) (hw _ (List.mem_of_getElem? (i := 6) rfl)) (by decide) own_pd32 rfl (newStrPay hw hEL O2 P5 X.old g_b221 (by simp) E_b221 F_b221_value F_b221_coder (cs := [(chB xa), (chA xa 8)]) (rfl) A_b224 (n := 2) rfl (by decide) (by decide) (alS (chB_ok xa) (alS (chA_ok xa 8 8 (by decide) (by decide)) al0)) (by decide) (by decide)) (Nat.le_of_ble_eq_true rfl) rfl rfl (by decide) (by decide) (by decide) (by decide) rfl (fun T h231 v_ ws_ X hgr_ q232 => ?_)
      obtain ⟨rfl, K_, S_b221, rfl⟩ := q232
      show Go p e below _ T (mkF m 42 #[.val (.int xa), .val (.int xb), .val (.int ln), .val (.int xf), .unset, .unset, .unset, .unset, .unset, .unset, .unset, .unset, .unset, .unset] [(.ref b221)])
      replace E_b221 := E_b221.keep K_
      exact J T h231 b221 _ S_b221 (alS (chB_ok xa) (alS (chA_ok xa 8 8 (by decide) (by decide)) al0)) (Nat.le_of_ble_eq_true rfl) (Cx.sub (X.more (by decide) (by decide)) (by simp))
    · refine s_ldcS X (pc' := 8) (k' := 2) (n' := 4) (nn := 0) (vs := []) (z := (0 : Int32)) hEL at_6 (hw _ (List.mem_of_getElem? (i := 337) rfl)) (fun d hd => hw d ((by decide +kernel : ∀ d ∈ Bundle.stringAtoms, d ∈ tables_1) d hd)) (by simp [consts_1, x]) (by decide) (by decide) (by decide) (by decide) (by decide) (by decide) (by decide) (by decide) (by decide) rfl (fun T h219 a1 b1 kc_b1 X' E220 E_a1 F_a1_coder F_a1_value V_b1 nw_ => ?_)
      replace X := X'
      have S_a1 : Str Z h219 a1 [] := ⟨b1, kc_b1, 0, 0, [], E_a1, F_a1_value, F_a1_coder, V_b1, Or.inl ⟨rfl, rfl, rfl, (by simp)⟩, (by simp), (by simp)⟩
      refine s_goto X (pc' := 42) at_8 (by decide) (by decide) ?_
      exact J T h219 a1 _ S_a1 al0 (by decide) (Cx.sub (X.more (by decide) (by decide)) (by simp))
  · refine s_astore X (pc' := 44) (L' := #[.val (.int xa), .val (.int xb), .val (.int ln), .val (.int xf), .val (.ref f0), .unset, .unset, .unset, .unset, .unset, .unset, .unset, .unset, .unset]) at_42 rfl rfl rfl ?_
    refine s_iloadN X (pc' := 45) at_44 rfl rfl ?_
    refine s_iconst X (pc' := 46) at_45 (v := (4 : Int32)) rfl rfl ?_
    refine s_iand X (pc' := 47) at_46 rfl ?_
    refine jn (A := ∀ T h2 (r0 : Addr) (rs : List Int32), Str Z h2 f0 fs → Str Z h2 r0 rs → Lat rs → rs.length ≤ 3 → Cx p l e room_1 s m #[(.int xa), (.int xb), (.int ln), (.int xf)] below meth c Z consts_1 True x code maxLocals ret [] T h2 16 48 → Go p e below (Post Z consts_1 s room_1 (fun v h' ws' => v = some (.int 1))) T (mkF m 98 #[.val (.int xa), .val (.int xb), .val (.int ln), .val (.int xf), .val (.ref f0), .unset, .unset, .unset, .unset, .unset, .unset, .unset, .unset, .unset] [.ref r0])) (fun J => ?_) (fun T h2 r0 rs S_f0 S_r0 hrs hrl X => ?_)
    · refine s_if X (pc' := 55) (pcF := 50) at_47 (by decide) (by decide) rfl (fun (q2 : (xf &&& (4 : Int32)) = (0 : Int32)) => ?_) (fun (q2 : ¬ (xf &&& (4 : Int32)) = (0 : Int32)) => ?_)
      · refine s_new X (pc' := 58) (k' := 9) (n' := 28) at_55 (hw _ (List.mem_of_getElem? (i := 0) rfl)) (hw _ (List.mem_of_getElem? (i := 1) rfl)) (hw _ (List.mem_of_getElem? (i := 2) rfl)) (by decide) (by decide) (by decide) (by decide) rfl (fun T h236 b235 gb_b235 X' E237 E_b235 D_b235 U_b235 => ?_)
        have g_b235 : Z.heap.size ≤ b235 := by rw [gb_b235]; exact X.lt
        have ne_f0_b235 : f0 ≠ b235 := Nat.ne_of_lt (by rw [gb_b235]; exact S_f0.lt)
        replace S_f0 := S_f0.ext E237
        replace X := X'
        have F_b235_coder : Fld Z h236 b235 "java/lang/String" "coder" "B" (.int (0 : Int32)) := D_b235 (Or.inr (hw _ (List.mem_of_getElem? (i := 27) rfl))) (ty := .byte) (by decide)
        have F_b235_value : Fld Z h236 b235 "java/lang/String" "value" "[B" .null := D_b235 (Or.inr (hw _ (List.mem_of_getElem? (i := 29) rfl))) (ty := (.array .byte)) (by decide)
        refine s_dup X (pc' := 59) at_58 rfl rfl ?_
        refine s_iconst X (pc' := 60) at_59 (v := (3 : Int32)) rfl rfl ?_
        refine s_newarr X (pc' := 62) (k' := 10) (n' := 31) (N := 3) at_60 (hw _ (List.mem_of_getElem? (i := 3) rfl)) rfl (by decide) (by decide) (by decide) (by decide) (by decide) rfl (fun T h239 b238 gb_b238 X' E240 A_b238 => ?_)
        have g_b238 : Z.heap.size ≤ b238 := by rw [gb_b238]; exact X.lt
        have ne_b235_b238 : b235 ≠ b238 := Nat.ne_of_lt (by rw [gb_b238]; exact E_b235.lt)
        have ne_f0_b238 : f0 ≠ b238 := Nat.ne_of_lt (by rw [gb_b238]; exact S_f0.lt)
        replace E_b235 := E_b235.ext E240
        replace F_b235_coder := F_b235_coder.ext E240
        replace F_b235_value := F_b235_value.ext E240
        replace S_f0 := S_f0.ext E240
        replace X := X'
        replace A_b238 : Ary Z h239 b238 .char [(.int (0 : Int32)), (.int (0 : Int32)), (.int (0 : Int32))] := A_b238
        refine s_dup X (pc' := 63) at_62 rfl rfl ?_
        refine s_iconst X (pc' := 64) at_63 (v := (0 : Int32)) rfl rfl ?_
        refine s_iloadN X (pc' := 65) at_64 rfl rfl ?_
        refine s_sipush X (pc' := 68) at_65 (v := (255 : Int32)) (by decide) rfl ?_
        refine s_iand X (pc' := 69) at_68 rfl ?_
        refine s_i2c X (pc' := 70) at_69 rfl ?_
        refine s_castore X (pc' := 71) (i := 0) at_70 A_b238 rfl (Nat.le_of_ble_eq_true rfl) g_b238 (by simp) rfl (fun T h241 X W242 A' => ?_)
        replace F_b235_coder := F_b235_coder.other W242 (Or.inl ne_b235_b238)
        replace F_b235_value := F_b235_value.other W242 (Or.inl ne_b235_b238)
        replace S_f0 := S_f0.wrA W242 A_b238 (by decide) (hw _ (List.mem_of_getElem? (i := 1) rfl))
        replace E_b235 := E_b235.wr W242
        replace A_b238 : Ary Z h241 b238 .char [(.int (nar .char (xb &&& (255 : Int32)).toUInt32.toUInt16.toUInt32.toInt32)), (.int (0 : Int32)), (.int (0 : Int32))] := A'
        refine s_dup X (pc' := 72) at_71 rfl rfl ?_
        refine s_iconst X (pc' := 73) at_72 (v := (1 : Int32)) rfl rfl ?_
        refine s_iloadN X (pc' := 74) at_73 rfl rfl ?_
        refine s_bipush X (pc' := 76) at_74 (v := (8 : Int32)) (by decide) rfl ?_
        refine s_iushr X (pc' := 77) at_76 rfl ?_
        refine s_sipush X (pc' := 80) at_77 (v := (255 : Int32)) (by decide) rfl ?_
        refine s_iand X (pc' := 81) at_80 rfl ?_
        refine s_i2c X (pc' := 82) at_81 rfl ?_
        refine s_castore X (pc' := 83) (i := 1) at_82 A_b238 rfl (Nat.le_of_ble_eq_true rfl) g_b238 (by simp) rfl (fun T h243 X W244 A' => ?_)
        replace F_b235_coder := F_b235_coder.other W244 (Or.inl ne_b235_b238)
        replace F_b235_value := F_b235_value.other W244 (Or.inl ne_b235_b238)
        replace S_f0 := S_f0.wrA W244 A_b238 (by decide) (hw _ (List.mem_of_getElem? (i := 1) rfl))
        replace E_b235 := E_b235.wr W244
        replace A_b238 : Ary Z h243 b238 .char [(.int (nar .char (xb &&& (255 : Int32)).toUInt32.toUInt16.toUInt32.toInt32)), (.int (nar .char (((xb.toUInt32 >>> ((8 : Int32) &&& 31).toUInt32).toInt32) &&& (255 : Int32)).toUInt32.toUInt16.toUInt32.toInt32)), (.int (0 : Int32))] := A'
        refine s_dup X (pc' := 84) at_83 rfl rfl ?_
        refine s_iconst X (pc' := 85) at_84 (v := (2 : Int32)) rfl rfl ?_
        refine s_iloadN X (pc' := 86) at_85 rfl rfl ?_
        refine s_bipush X (pc' := 88) at_86 (v := (16 : Int32)) (by decide) rfl ?_
        refine s_iushr X (pc' := 89) at_88 rfl ?_
        refine s_sipush X (pc' := 92) at_89 (v := (255 : Int32)) (by decide) rfl ?_
        refine s_iand X (pc' := 93) at_92 rfl ?_
        refine s_i2c X (pc' := 94) at_93 rfl ?_
        refine s_castore X (pc' := 95) (i := 2) at_94 A_b238 rfl (Nat.le_of_ble_eq_true rfl) g_b238 (by simp) rfl (fun T h245 X W246 A' => ?_)
        replace F_b235_coder := F_b235_coder.other W246 (Or.inl ne_b235_b238)
        replace F_b235_value := F_b235_value.other W246 (Or.inl ne_b235_b238)
        replace S_f0 := S_f0.wrA W246 A_b238 (by decide) (hw _ (List.mem_of_getElem? (i := 1) rfl))
        replace E_b235 := E_b235.wr W246
        replace A_b238 : Ary Z h245 b238 .char [(.int (nar .char (xb &&& (255 : Int32)).toUInt32.toUInt16.toUInt32.toInt32)), (.int (nar .char (((xb.toUInt32 >>> ((8 : Int32) &&& 31).toUInt32).toInt32) &&& (255 : Int32)).toUInt32.toUInt16.toUInt32.toInt32)), (.int (nar .char (((xb.toUInt32 >>> ((16 : Int32) &&& 31).toUInt32).toInt32) &&& (255 : Int32)).toUInt32.toUInt16.toUInt32.toInt32))] := A'
        have E0_b235 := E_b235
        refine s_special X (pc' := 98) (W := 1) (as' := [(.ref b238)]) (S := [(.ref b235)]) (k' := 11) (n' := 34) at_95 rfl (hw _ (List.mem_of_getElem? (i := 4) rfl)) (hw _ (List.mem_of_getElem? (i := 5) rfl)) (hw _ (List.mem_of_getElem? (i := 6) rfl)) (by decide) own_pd32 rfl (newStrPay hw hEL O2 P5 X.old g_b235 (by simp) E_b235 F_b235_value F_b235_coder (cs := [(chB xb), (chA xb 8), (chA xb 16)]) (rfl) A_b238 (n := 3) rfl (by decide) (by decide) (alS (chB_ok xb) (alS (chA_ok xb 8 8 (by decide) (by decide)) (alS (chA_ok xb 16 16 (by decide) (by decide)) al0))) (by decide) (by decide)) (Nat.le_of_ble_eq_true rfl) rfl rfl (by decide) (by decide) (by decide) (by decide) rfl (fun T h247 v_ ws_ X hgr_ q248 => ?_)
        obtain ⟨rfl, K_, S_b235, rfl⟩ := q248
        show Go p e below _ T (mkF m 98 #[.val (.int xa), .val (.int xb), .val (.int ln), .val (.int xf), .val (.ref f0), .unset, .unset, .unset, .unset, .unset, .unset, .unset, .unset, .unset] [(.ref b235)])
        replace E_b235 := E_b235.keep K_
        replace S_f0 := S_f0.keepS K_ E0_b235 ne_f0_b235 (hw _ (List.mem_of_getElem? (i := 1) rfl))
        exact J T h247 b235 _ S_f0 S_b235 (alS (chB_ok xb) (alS (chA_ok xb 8 8 (by decide) (by decide)) (alS (chA_ok xb 16 16 (by decide) (by decide)) al0))) (Nat.le_of_ble_eq_true rfl) (Cx.sub (X.more (by decide) (by decide)) (by simp))
      · refine s_ldcS X (pc' := 52) (k' := 10) (n' := 28) (nn := 0) (vs := []) (z := (0 : Int32)) hEL at_50 (hw _ (List.mem_of_getElem? (i := 337) rfl)) (fun d hd => hw d ((by decide +kernel : ∀ d ∈ Bundle.stringAtoms, d ∈ tables_1) d hd)) (by simp [consts_1, x]) (by decide) (by decide) (by decide) (by decide) (by decide) (by decide) (by decide) (by decide) (by decide) rfl (fun T h233 a2 b2 kc_b2 X' E234 E_a2 F_a2_coder F_a2_value V_b2 nw_ => ?_)
        replace S_f0 := S_f0.ext E234
        replace X := X'
        have S_a2 : Str Z h233 a2 [] := ⟨b2, kc_b2, 0, 0, [], E_a2, F_a2_value, F_a2_coder, V_b2, Or.inl ⟨rfl, rfl, rfl, (by simp)⟩, (by simp), (by simp)⟩
        refine s_goto X (pc' := 98) at_52 (by decide) (by decide) ?_
        exact J T h233 a2 _ S_f0 S_a2 al0 (by decide) (Cx.sub (X.more (by decide) (by decide)) (by simp))
    · refine s_astore X (pc' := 100) (L' := #[.val (.int xa), .val (.int xb), .val (.int ln), .val (.int xf), .val (.ref f0), .val (.ref r0), .unset, .unset, .unset, .unset, .unset, .unset, .unset, .unset]) at_98 rfl rfl rfl ?_
      refine s_iloadN X (pc' := 101) at_100 rfl rfl ?_
      refine s_iconst X (pc' := 102) at_101 (v := (1 : Int32)) rfl rfl ?_
      refine s_iand X (pc' := 103) at_102 rfl ?_
      refine s_if X (pc' := 110) (pcF := 106) at_103 (by decide) (by decide) rfl (fun (q3 : (xf &&& (1 : Int32)) = (0 : Int32)) => ?_) (fun (q3 : ¬ (xf &&& (1 : Int32)) = (0 : Int32)) => ?_)
      · refine s_iconst X (pc' := 111) at_110 (v := (0 : Int32)) rfl rfl ?_
        refine s_istore X (pc' := 113) (L' := #[.val (.int xa), .val (.int xb), .val (.int ln), .val (.int xf), .val (.ref f0), .val (.ref r0), .val (.int (0 : Int32)), .unset, .unset, .unset, .unset, .unset, .unset, .unset]) at_111 rfl rfl ?_
        refine s_iload X (pc' := 115) at_113 rfl rfl ?_
        refine s_ifT X (pc' := 132) at_115 (show (0 : Int32) = (0 : Int32) by decide) (by decide) (by decide) ?_
        refine s_new X (pc' := 135) (k' := 17) (n' := 57) at_132 (hw _ (List.mem_of_getElem? (i := 30) rfl)) (hw _ (List.mem_of_getElem? (i := 31) rfl)) (hw _ (List.mem_of_getElem? (i := 32) rfl)) (by decide) (by decide) (by decide) (by decide) rfl (fun T h283 b282 gb_b282 X' E284 E_b282 D_b282 U_b282 => ?_)
        have g_b282 : Z.heap.size ≤ b282 := by rw [gb_b282]; exact X.lt
        have ne_f0_b282 : f0 ≠ b282 := Nat.ne_of_lt (by rw [gb_b282]; exact S_f0.lt)
        have ne_r0_b282 : r0 ≠ b282 := Nat.ne_of_lt (by rw [gb_b282]; exact S_r0.lt)
        replace S_f0 := S_f0.ext E284
        replace S_r0 := S_r0.ext E284
        replace X := X'
        have F_b282_cause : Fld Z h283 b282 "java/lang/Throwable" "cause" "Ljava/lang/Throwable;" .null := D_b282 (Or.inl (hw _ (List.mem_of_getElem? (i := 162) rfl))) (ty := (.object "java/lang/Throwable")) (by decide)
        have F_b282_stackTrace : Fld Z h283 b282 "java/lang/Throwable" "stackTrace" "[Ljava/lang/StackTraceElement;" .null := D_b282 (Or.inl (hw _ (List.mem_of_getElem? (i := 165) rfl))) (ty := (.array (.object "java/lang/StackTraceElement"))) (by decide)
        have F_b282_suppressedExceptions : Fld Z h283 b282 "java/lang/Throwable" "suppressedExceptions" "Ljava/util/List;" .null := D_b282 (Or.inl (hw _ (List.mem_of_getElem? (i := 168) rfl))) (ty := (.object "java/util/List")) (by decide)
        have F_b282_detailMessage : Fld Z h283 b282 "java/lang/Throwable" "detailMessage" "Ljava/lang/String;" .null := D_b282 (Or.inl (hw _ (List.mem_of_getElem? (i := 192) rfl))) (ty := (.object "java/lang/String")) (by decide)
        have F_b282_backtrace : Fld Z h283 b282 "java/lang/Throwable" "backtrace" "Ljava/lang/Object;" .null := D_b282 (Or.inl (hw _ (List.mem_of_getElem? (i := 193) rfl))) (ty := (.object "java/lang/Object")) (by decide)
        have F_b282_depth : Fld Z h283 b282 "java/lang/Throwable" "depth" "I" (.int (0 : Int32)) := D_b282 (Or.inl (hw _ (List.mem_of_getElem? (i := 194) rfl))) (ty := .int) (by decide)
        have F_b282_file : Fld Z h283 b282 "com/example/vestwright/vestwright/input/InputException" "file" "Ljava/lang/String;" .null := D_b282 (Or.inr (hw _ (List.mem_of_getElem? (i := 198) rfl))) (ty := (.object "java/lang/String")) (by decide)
        have F_b282_line : Fld Z h283 b282 "com/example/vestwright/vestwright/input/InputException" "line" "I" (.int (0 : Int32)) := D_b282 (Or.inr (hw _ (List.mem_of_getElem? (i := 200) rfl))) (ty := .int) (by decide)
        have F_b282_reason : Fld Z h283 b282 "com/example/vestwright/vestwright/input/InputException" "reason" "Ljava/lang/String;" .null := D_b282 (Or.inr (hw _ (List.mem_of_getElem? (i := 202) rfl))) (ty := (.object "java/lang/String")) (by decide)
        refine s_dup X (pc' := 136) at_135 rfl rfl ?_
        refine s_aload X (pc' := 138) at_136 rfl rfl rfl ?_
        refine s_iloadN X (pc' := 139) at_138 rfl rfl ?_
        refine s_aload X (pc' := 141) at_139 rfl rfl rfl ?_
        have E_f0 := S_f0.exa
        have E_r0 := S_r0.exa
        refine s_special X (pc' := 144) (W := 1) (as' := [(.ref f0), (.int ln), (.ref r0)]) (S := [(.ref b282)]) (k' := 33) (n' := 3257) at_141 rfl (hw _ (List.mem_of_getElem? (i := 338) rfl)) (hw _ (List.mem_of_getElem? (i := 339) rfl)) (hw _ (List.mem_of_getElem? (i := 340) rfl)) (by decide) own_pd39 rfl ((own_ix3 l Z a0 hw hEL b282 f0 ln r0 _ g_b282 E_b282 U_b282 F_b282_cause F_b282_stackTrace F_b282_suppressedExceptions F_b282_backtrace F_b282_detailMessage F_b282_file F_b282_line F_b282_reason S_f0 S_r0 hfs hrs hfl hrl Us Ss hlt dg O2 P5).payS (by simp) (hw _ (List.mem_of_getElem? (i := 340) rfl)) (hw _ (List.mem_of_getElem? (i := 32) rfl)) hEL (by decide) (by decide)) (Nat.le_of_ble_eq_true rfl) rfl rfl (by decide) (by decide) (by decide) (by decide) rfl (fun T h285 v_ ws_ X hgr_ q286 => ?_)
        obtain ⟨mg, rfl, K_, E'_, F_i_file, F_i_line, F_i_reason, F_i_detailMessage, E_mg, rfl⟩ := q286
        show Go p e below _ T (mkF m 144 #[.val (.int xa), .val (.int xb), .val (.int ln), .val (.int xf), .val (.ref f0), .val (.ref r0), .val (.int (0 : Int32)), .unset, .unset, .unset, .unset, .unset, .unset, .unset] [(.ref b282)])
        replace X := X.sub (ws' := []) (by simp)
        replace E_f0 := E_f0.keep K_
        replace E_r0 := E_r0.keep K_
        obtain ⟨i, gi⟩ : ∃ z, z = b282 := ⟨_, rfl⟩
        rw [← gi] at E'_ F_i_file F_i_line F_i_reason F_i_detailMessage
        rw [← gi]
        have E_i := E'_
        by_cases hl0 : ln = (0 : Int32)
        · rw [hl0] at F_i_line
          refine s_astore X (pc' := 146) (L' := #[.val (.int xa), .val (.int xb), .val (.int ln), .val (.int xf), .val (.ref f0), .val (.ref r0), .val (.int (0 : Int32)), .val (.ref i), .unset, .unset, .unset, .unset, .unset, .unset]) at_144 rfl rfl rfl ?_
          refine s_aload X (pc' := 148) at_146 rfl rfl rfl ?_
          refine s_static X (pc' := 151) (W := 0) (as' := [(.ref i)]) (S := []) (k' := 35) (n' := 6016) at_148 (hw _ (List.mem_of_getElem? (i := 203) rfl)) (hw _ (List.mem_of_getElem? (i := 204) rfl)) (hw _ (List.mem_of_getElem? (i := 205) rfl)) (hw _ (List.mem_of_getElem? (i := 206) rfl)) (by decide) own_pd34 rfl ((own_of l Z a0 hw hEL i _ E_i F_i_detailMessage Ik Us Ss hlt).payS (by simp) (hw _ (List.mem_of_getElem? (i := 206) rfl)) (hw _ (List.mem_of_getElem? (i := 205) rfl)) hEL (by decide) (by decide)) (Nat.le_of_ble_eq_true rfl) rfl rfl (by decide) (by decide) (by decide) (by decide) rfl (fun T h287 v_ ws_ X hgr_ q288 => ?_)
          obtain ⟨r, rfl, E_, hne, E_r, N_r, F_r_kind, F_r_detailMessage, F_r_cause, rfl⟩ := q288
          show Go p e below _ T (mkF m 151 #[.val (.int xa), .val (.int xb), .val (.int ln), .val (.int xf), .val (.ref f0), .val (.ref r0), .val (.int (0 : Int32)), .val (.ref i), .unset, .unset, .unset, .unset, .unset, .unset] [(.ref r)])
          replace X := X.sub (ws' := []) (by simp)
          replace E_f0 := E_f0.ext E_
          replace E_r0 := E_r0.ext E_
          replace E_i := E_i.ext E_
          replace E_mg := E_mg.ext E_
          replace F_i_file := F_i_file.ext E_
          replace F_i_line := F_i_line.ext E_
          replace F_i_reason := F_i_reason.ext E_
          replace F_i_detailMessage := F_i_detailMessage.ext E_
          refine s_astore X (pc' := 153) (L' := #[.val (.int xa), .val (.int xb), .val (.int ln), .val (.int xf), .val (.ref f0), .val (.ref r0), .val (.int (0 : Int32)), .val (.ref i), .val (.ref r), .unset, .unset, .unset, .unset, .unset]) at_151 rfl rfl rfl ?_
          refine s_aload X (pc' := 155) at_153 rfl rfl rfl ?_
          refine s_virtual X (pc' := 158) (W := 0) (as' := []) (S := []) (k' := 35) (n' := 6016) at_155 (hw _ (List.mem_of_getElem? (i := 241) rfl)) (hw _ (List.mem_of_getElem? (i := 242) rfl)) (hw _ (List.mem_of_getElem? (i := 244) rfl)) (hw _ (List.mem_of_getElem? (i := 243) rfl)) (nface (hw _ (List.mem_of_getElem? (i := 244) rfl))) (by decide) own_pd35 rfl E_r ((own_kind l Z a0 hw hEL r _ F_r_kind).payS (by simp) (hw _ (List.mem_of_getElem? (i := 245) rfl)) (hw _ (List.mem_of_getElem? (i := 205) rfl)) hEL (by decide) (by decide)) (Nat.le_of_ble_eq_true rfl) rfl rfl (by decide) (by decide) (by decide) (by decide) rfl (fun T h289 v_ ws_ X hgr_ q290 => ?_)
          obtain ⟨rfl, e_, rfl⟩ := q290
          rw [e_] at X
          show Go p e below _ T (mkF m 158 #[.val (.int xa), .val (.int xb), .val (.int ln), .val (.int xf), .val (.ref f0), .val (.ref r0), .val (.int (0 : Int32)), .val (.ref i), .val (.ref r), .unset, .unset, .unset, .unset, .unset] [(.ref kd)])
          replace X := X.sub (ws' := []) (by simp)
          refine s_gets X (pc' := 161) at_158 (hw _ (List.mem_of_getElem? (i := 246) rfl)) Via.refl Ik rfl (fun T X => ?_)
          refine s_acmpT X (pc' := 166) at_161 rfl rfl (by simp [XT.acmp]) (by decide) (by decide) ?_
          refine s_aload X (pc' := 168) at_166 rfl rfl rfl ?_
          refine s_up X (pc' := 171) (W := 0) (as' := []) (S := []) (k' := 35) (n' := 6016) at_168 (hw _ (List.mem_of_getElem? (i := 247) rfl)) (hw _ (List.mem_of_getElem? (i := 248) rfl)) (hw _ (List.mem_of_getElem? (i := 249) rfl)) (hw _ (List.mem_of_getElem? (i := 251) rfl)) (hw _ (List.mem_of_getElem? (i := 250) rfl)) (by decide) own_pd29 rfl E_r (gcPay (a0 := a0) hEL (show (Jvm.Cond.codeSync RoadKit.gcN RoadKit.gcB 1 (some (.object Bundle.tN))).before a0 Z = true from (hw _ (List.mem_of_getElem? (i := 252) rfl))) (hw _ (List.mem_of_getElem? (i := 250) rfl)) (hw _ (List.mem_of_getElem? (i := 158) rfl)) (hw _ (List.mem_of_getElem? (i := 161) rfl)) N_r F_r_cause rfl (fun z => hne (Value.ref.inj z)) (by decide) (by decide)) (Nat.le_of_ble_eq_true rfl) rfl rfl (by decide) (by decide) (by decide) (by decide) rfl (fun T h291 v_ ws_ X hgr_ q292 => ?_)
          obtain ⟨rfl, e_, rfl⟩ := q292
          rw [e_] at X
          show Go p e below _ T (mkF m 171 #[.val (.int xa), .val (.int xb), .val (.int ln), .val (.int xf), .val (.ref f0), .val (.ref r0), .val (.int (0 : Int32)), .val (.ref i), .val (.ref r), .unset, .unset, .unset, .unset, .unset] [(.ref i)])
          replace X := X.sub (ws' := []) (by simp)
          refine s_aload X (pc' := 173) at_171 rfl rfl rfl ?_
          refine s_acmpT X (pc' := 178) at_173 rfl rfl (by simp [XT.acmp]) (by decide) (by decide) ?_
          refine s_aload X (pc' := 180) at_178 rfl rfl rfl ?_
          refine s_up X (pc' := 183) (W := 0) (as' := []) (S := []) (k' := 35) (n' := 6016) at_180 (hw _ (List.mem_of_getElem? (i := 253) rfl)) (hw _ (List.mem_of_getElem? (i := 254) rfl)) (hw _ (List.mem_of_getElem? (i := 214) rfl)) (hw _ (List.mem_of_getElem? (i := 255) rfl)) (hw _ (List.mem_of_getElem? (i := 215) rfl)) (by decide) own_pd22 rfl E_r ((own_gm l Z a0 hw hEL r _ F_r_detailMessage).payS (by simp) (hw _ (List.mem_of_getElem? (i := 217) rfl)) (hw _ (List.mem_of_getElem? (i := 158) rfl)) hEL (by decide) (by decide)) (Nat.le_of_ble_eq_true rfl) rfl rfl (by decide) (by decide) (by decide) (by decide) rfl (fun T h293 v_ ws_ X hgr_ q294 => ?_)
          obtain ⟨rfl, e_, rfl⟩ := q294
          rw [e_] at X
          show Go p e below _ T (mkF m 183 #[.val (.int xa), .val (.int xb), .val (.int ln), .val (.int xf), .val (.ref f0), .val (.ref r0), .val (.int (0 : Int32)), .val (.ref i), .val (.ref r), .unset, .unset, .unset, .unset, .unset] [(.ref mg)])
          replace X := X.sub (ws' := []) (by simp)
          refine s_astore X (pc' := 185) (L' := #[.val (.int xa), .val (.int xb), .val (.int ln), .val (.int xf), .val (.ref f0), .val (.ref r0), .val (.int (0 : Int32)), .val (.ref i), .val (.ref r), .val (.ref mg), .unset, .unset, .unset, .unset]) at_183 rfl rfl rfl ?_
          refine s_aload X (pc' := 187) at_185 rfl rfl rfl ?_
          refine s_up X (pc' := 190) (W := 0) (as' := []) (S := []) (k' := 35) (n' := 6016) at_187 (hw _ (List.mem_of_getElem? (i := 256) rfl)) (hw _ (List.mem_of_getElem? (i := 213) rfl)) (hw _ (List.mem_of_getElem? (i := 214) rfl)) (hw _ (List.mem_of_getElem? (i := 216) rfl)) (hw _ (List.mem_of_getElem? (i := 215) rfl)) (by decide) own_pd22 rfl E_i ((own_gm l Z a0 hw hEL i _ F_i_detailMessage).payS (by simp) (hw _ (List.mem_of_getElem? (i := 217) rfl)) (hw _ (List.mem_of_getElem? (i := 158) rfl)) hEL (by decide) (by decide)) (Nat.le_of_ble_eq_true rfl) rfl rfl (by decide) (by decide) (by decide) (by decide) rfl (fun T h295 v_ ws_ X hgr_ q296 => ?_)
          obtain ⟨rfl, e_, rfl⟩ := q296
          rw [e_] at X
          show Go p e below _ T (mkF m 190 #[.val (.int xa), .val (.int xb), .val (.int ln), .val (.int xf), .val (.ref f0), .val (.ref r0), .val (.int (0 : Int32)), .val (.ref i), .val (.ref r), .val (.ref mg), .unset, .unset, .unset, .unset] [(.ref mg)])
          replace X := X.sub (ws' := []) (by simp)
          refine s_astore X (pc' := 192) (L' := #[.val (.int xa), .val (.int xb), .val (.int ln), .val (.int xf), .val (.ref f0), .val (.ref r0), .val (.int (0 : Int32)), .val (.ref i), .val (.ref r), .val (.ref mg), .val (.ref mg), .unset, .unset, .unset]) at_190 rfl rfl rfl ?_
          refine s_aload X (pc' := 194) at_192 rfl rfl rfl ?_
          refine s_ifnullF X (pc' := 197) at_194 rfl ?_
          refine s_aload X (pc' := 199) at_197 rfl rfl rfl ?_
          refine s_aload X (pc' := 201) at_199 rfl rfl rfl ?_
          refine s_virtual X (pc' := 204) (W := 0) (as' := [(.ref mg)]) (S := []) (k' := 35) (n' := 6016) at_201 (hw _ (List.mem_of_getElem? (i := 257) rfl)) (hw _ (List.mem_of_getElem? (i := 258) rfl)) (hw _ (List.mem_of_getElem? (i := 260) rfl)) (hw _ (List.mem_of_getElem? (i := 259) rfl)) (nface (hw _ (List.mem_of_getElem? (i := 260) rfl))) (by decide) own_pd36 rfl E_mg ((own_eqs l Z a0 hw hEL mg _).payS (by simp) (hw _ (List.mem_of_getElem? (i := 261) rfl)) (hw _ (List.mem_of_getElem? (i := 2) rfl)) hEL (by decide) (by decide)) (Nat.le_of_ble_eq_true rfl) rfl rfl (by decide) (by decide) (by decide) (by decide) rfl (fun T h297 v_ ws_ X hgr_ q298 => ?_)
          obtain ⟨rfl, e_, rfl⟩ := q298
          rw [e_] at X
          show Go p e below _ T (mkF m 204 #[.val (.int xa), .val (.int xb), .val (.int ln), .val (.int xf), .val (.ref f0), .val (.ref r0), .val (.int (0 : Int32)), .val (.ref i), .val (.ref r), .val (.ref mg), .val (.ref mg), .unset, .unset, .unset] [(.int (1 : Int32))])
          replace X := X.sub (ws' := []) (by simp)
          refine s_ifT X (pc' := 209) at_204 (show ¬ (1 : Int32) = (0 : Int32) by decide) (by decide) (by decide) ?_
          refine s_aload X (pc' := 211) at_209 rfl rfl rfl ?_
          refine s_virtual X (pc' := 214) (W := 0) (as' := []) (S := []) (k' := 36) (n' := 6017) at_211 (hw _ (List.mem_of_getElem? (i := 262) rfl)) (hw _ (List.mem_of_getElem? (i := 263) rfl)) (hw _ (List.mem_of_getElem? (i := 265) rfl)) (hw _ (List.mem_of_getElem? (i := 264) rfl)) (nface (hw _ (List.mem_of_getElem? (i := 265) rfl))) (by decide) own_pd37 rfl E_r ((own_rf l Z a0 hw hEL r _ E_r N_r F_r_cause E_i hne F_i_file F_r_kind Ik).payS (by simp) (hw _ (List.mem_of_getElem? (i := 266) rfl)) (hw _ (List.mem_of_getElem? (i := 205) rfl)) hEL (by decide) (by decide)) (Nat.le_of_ble_eq_true rfl) rfl rfl (by decide) (by decide) (by decide) (by decide) rfl (fun T h299 v_ ws_ X hgr_ q300 => ?_)
          obtain ⟨o, rfl, E_, E_o, F_o_value, rfl⟩ := q300
          show Go p e below _ T (mkF m 214 #[.val (.int xa), .val (.int xb), .val (.int ln), .val (.int xf), .val (.ref f0), .val (.ref r0), .val (.int (0 : Int32)), .val (.ref i), .val (.ref r), .val (.ref mg), .val (.ref mg), .unset, .unset, .unset] [(.ref o)])
          replace X := X.sub (ws' := []) (by simp)
          replace E_f0 := E_f0.ext E_
          replace E_r0 := E_r0.ext E_
          replace E_i := E_i.ext E_
          replace E_mg := E_mg.ext E_
          replace E_r := E_r.ext E_
          replace F_i_file := F_i_file.ext E_
          replace F_i_line := F_i_line.ext E_
          replace F_i_reason := F_i_reason.ext E_
          replace F_i_detailMessage := F_i_detailMessage.ext E_
          replace F_r_kind := F_r_kind.ext E_
          replace F_r_detailMessage := F_r_detailMessage.ext E_
          replace F_r_cause := F_r_cause.ext E_
          replace N_r := Unt.ext E_ N_r
          refine s_astore X (pc' := 216) (L' := #[.val (.int xa), .val (.int xb), .val (.int ln), .val (.int xf), .val (.ref f0), .val (.ref r0), .val (.int (0 : Int32)), .val (.ref i), .val (.ref r), .val (.ref mg), .val (.ref mg), .val (.ref o), .unset, .unset]) at_214 rfl rfl rfl ?_
          refine s_aload X (pc' := 218) at_216 rfl rfl rfl ?_
          refine s_virtual X (pc' := 221) (W := 0) (as' := []) (S := []) (k' := 36) (n' := 6017) at_218 (hw _ (List.mem_of_getElem? (i := 295) rfl)) (hw _ (List.mem_of_getElem? (i := 296) rfl)) (hw _ (List.mem_of_getElem? (i := 298) rfl)) (hw _ (List.mem_of_getElem? (i := 297) rfl)) (nface (hw _ (List.mem_of_getElem? (i := 298) rfl))) (by decide) own_pd14 rfl E_o ((own_ip l Z a0 hw hEL o _ F_o_value).payS (by simp) (hw _ (List.mem_of_getElem? (i := 299) rfl)) (hw _ (List.mem_of_getElem? (i := 280) rfl)) hEL (by decide) (by decide)) (Nat.le_of_ble_eq_true rfl) rfl rfl (by decide) (by decide) (by decide) (by decide) rfl (fun T h301 v_ ws_ X hgr_ q302 => ?_)
          obtain ⟨rfl, e_, rfl⟩ := q302
          rw [e_] at X
          show Go p e below _ T (mkF m 221 #[.val (.int xa), .val (.int xb), .val (.int ln), .val (.int xf), .val (.ref f0), .val (.ref r0), .val (.int (0 : Int32)), .val (.ref i), .val (.ref r), .val (.ref mg), .val (.ref mg), .val (.ref o), .unset, .unset] [(.int (1 : Int32))])
          replace X := X.sub (ws' := []) (by simp)
          refine s_ifF X (pc' := 224) at_221 (show ¬ (1 : Int32) = (0 : Int32) by decide) rfl ?_
          refine s_aload X (pc' := 226) at_224 rfl rfl rfl ?_
          refine s_virtual X (pc' := 229) (W := 0) (as' := []) (S := []) (k' := 36) (n' := 6017) at_226 (hw _ (List.mem_of_getElem? (i := 300) rfl)) (hw _ (List.mem_of_getElem? (i := 301) rfl)) (hw _ (List.mem_of_getElem? (i := 303) rfl)) (hw _ (List.mem_of_getElem? (i := 302) rfl)) (nface (hw _ (List.mem_of_getElem? (i := 303) rfl))) (by decide) own_pd38 rfl E_o ((own_get l Z a0 hw hEL o _ F_o_value).payS (by simp) (hw _ (List.mem_of_getElem? (i := 304) rfl)) (hw _ (List.mem_of_getElem? (i := 280) rfl)) hEL (by decide) (by decide)) (Nat.le_of_ble_eq_true rfl) rfl rfl (by decide) (by decide) (by decide) (by decide) rfl (fun T h303 v_ ws_ X hgr_ q304 => ?_)
          obtain ⟨rfl, e_, rfl⟩ := q304
          rw [e_] at X
          show Go p e below _ T (mkF m 229 #[.val (.int xa), .val (.int xb), .val (.int ln), .val (.int xf), .val (.ref f0), .val (.ref r0), .val (.int (0 : Int32)), .val (.ref i), .val (.ref r), .val (.ref mg), .val (.ref mg), .val (.ref o), .unset, .unset] [(.ref f0)])
          replace X := X.sub (ws' := []) (by simp)
          refine s_castY X (pc' := 232) at_229 (hw _ (List.mem_of_getElem? (i := 0) rfl)) (Ins.self E_f0) rfl (fun T X => ?_)
          refine s_aload X (pc' := 234) at_232 rfl rfl rfl ?_
          refine s_virtual X (pc' := 237) (W := 0) (as' := [(.ref f0)]) (S := []) (k' := 36) (n' := 6017) at_234 (hw _ (List.mem_of_getElem? (i := 257) rfl)) (hw _ (List.mem_of_getElem? (i := 258) rfl)) (hw _ (List.mem_of_getElem? (i := 260) rfl)) (hw _ (List.mem_of_getElem? (i := 259) rfl)) (nface (hw _ (List.mem_of_getElem? (i := 260) rfl))) (by decide) own_pd36 rfl E_f0 ((own_eqs l Z a0 hw hEL f0 _).payS (by simp) (hw _ (List.mem_of_getElem? (i := 261) rfl)) (hw _ (List.mem_of_getElem? (i := 2) rfl)) hEL (by decide) (by decide)) (Nat.le_of_ble_eq_true rfl) rfl rfl (by decide) (by decide) (by decide) (by decide) rfl (fun T h305 v_ ws_ X hgr_ q306 => ?_)
          obtain ⟨rfl, e_, rfl⟩ := q306
          rw [e_] at X
          show Go p e below _ T (mkF m 237 #[.val (.int xa), .val (.int xb), .val (.int ln), .val (.int xf), .val (.ref f0), .val (.ref r0), .val (.int (0 : Int32)), .val (.ref i), .val (.ref r), .val (.ref mg), .val (.ref mg), .val (.ref o), .unset, .unset] [(.int (1 : Int32))])
          replace X := X.sub (ws' := []) (by simp)
          refine s_ifT X (pc' := 242) at_237 (show ¬ (1 : Int32) = (0 : Int32) by decide) (by decide) (by decide) ?_
          refine s_aload X (pc' := 244) at_242 rfl rfl rfl ?_
          refine s_virtual X (pc' := 247) (W := 0) (as' := []) (S := []) (k' := 36) (n' := 6017) at_244 (hw _ (List.mem_of_getElem? (i := 305) rfl)) (hw _ (List.mem_of_getElem? (i := 306) rfl)) (hw _ (List.mem_of_getElem? (i := 308) rfl)) (hw _ (List.mem_of_getElem? (i := 307) rfl)) (nface (hw _ (List.mem_of_getElem? (i := 308) rfl))) (by decide) own_pd22 rfl E_r ((own_rr l Z a0 hw hEL r _ E_r N_r F_r_cause E_i hne F_i_reason F_r_kind Ik).payS (by simp) (hw _ (List.mem_of_getElem? (i := 309) rfl)) (hw _ (List.mem_of_getElem? (i := 205) rfl)) hEL (by decide) (by decide)) (Nat.le_of_ble_eq_true rfl) rfl rfl (by decide) (by decide) (by decide) (by decide) rfl (fun T h307 v_ ws_ X hgr_ q308 => ?_)
          obtain ⟨rfl, e_, rfl⟩ := q308
          rw [e_] at X
          show Go p e below _ T (mkF m 247 #[.val (.int xa), .val (.int xb), .val (.int ln), .val (.int xf), .val (.ref f0), .val (.ref r0), .val (.int (0 : Int32)), .val (.ref i), .val (.ref r), .val (.ref mg), .val (.ref mg), .val (.ref o), .unset, .unset] [(.ref r0)])
          replace X := X.sub (ws' := []) (by simp)
          refine s_aload X (pc' := 249) at_247 rfl rfl rfl ?_
          refine s_virtual X (pc' := 252) (W := 0) (as' := [(.ref r0)]) (S := []) (k' := 36) (n' := 6017) at_249 (hw _ (List.mem_of_getElem? (i := 257) rfl)) (hw _ (List.mem_of_getElem? (i := 258) rfl)) (hw _ (List.mem_of_getElem? (i := 260) rfl)) (hw _ (List.mem_of_getElem? (i := 259) rfl)) (nface (hw _ (List.mem_of_getElem? (i := 260) rfl))) (by decide) own_pd36 rfl E_r0 ((own_eqs l Z a0 hw hEL r0 _).payS (by simp) (hw _ (List.mem_of_getElem? (i := 261) rfl)) (hw _ (List.mem_of_getElem? (i := 2) rfl)) hEL (by decide) (by decide)) (Nat.le_of_ble_eq_true rfl) rfl rfl (by decide) (by decide) (by decide) (by decide) rfl (fun T h309 v_ ws_ X hgr_ q310 => ?_)
          obtain ⟨rfl, e_, rfl⟩ := q310
          rw [e_] at X
          show Go p e below _ T (mkF m 252 #[.val (.int xa), .val (.int xb), .val (.int ln), .val (.int xf), .val (.ref f0), .val (.ref r0), .val (.int (0 : Int32)), .val (.ref i), .val (.ref r), .val (.ref mg), .val (.ref mg), .val (.ref o), .unset, .unset] [(.int (1 : Int32))])
          replace X := X.sub (ws' := []) (by simp)
          refine s_ifT X (pc' := 257) at_252 (show ¬ (1 : Int32) = (0 : Int32) by decide) (by decide) (by decide) ?_
          refine s_aload X (pc' := 259) at_257 rfl rfl rfl ?_
          refine s_virtual X (pc' := 262) (W := 0) (as' := []) (S := []) (k' := 36) (n' := 6017) at_259 (hw _ (List.mem_of_getElem? (i := 315) rfl)) (hw _ (List.mem_of_getElem? (i := 316) rfl)) (hw _ (List.mem_of_getElem? (i := 318) rfl)) (hw _ (List.mem_of_getElem? (i := 317) rfl)) (nface (hw _ (List.mem_of_getElem? (i := 318) rfl))) (by decide) own_pd23 rfl E_r ((own_rl0 l Z a0 hw hEL r _ E_r N_r F_r_cause E_i hne F_i_line F_r_kind Ik Oo Xo Fo).payS (by simp) (hw _ (List.mem_of_getElem? (i := 319) rfl)) (hw _ (List.mem_of_getElem? (i := 205) rfl)) hEL (by decide) (by decide)) (Nat.le_of_ble_eq_true rfl) rfl rfl (by decide) (by decide) (by decide) (by decide) rfl (fun T h311 v_ ws_ X hgr_ q312 => ?_)
          obtain ⟨rfl, e_, rfl⟩ := q312
          rw [e_] at X
          show Go p e below _ T (mkF m 262 #[.val (.int xa), .val (.int xb), .val (.int ln), .val (.int xf), .val (.ref f0), .val (.ref r0), .val (.int (0 : Int32)), .val (.ref i), .val (.ref r), .val (.ref mg), .val (.ref mg), .val (.ref o), .unset, .unset] [(.ref oe)])
          replace X := X.sub (ws' := []) (by simp)
          have E_oe := Xo.ext X.old
          refine s_astore X (pc' := 264) (L' := #[.val (.int xa), .val (.int xb), .val (.int ln), .val (.int xf), .val (.ref f0), .val (.ref r0), .val (.int (0 : Int32)), .val (.ref i), .val (.ref r), .val (.ref mg), .val (.ref mg), .val (.ref o), .val (.ref oe), .unset]) at_262 rfl rfl rfl ?_
          refine s_iload X (pc' := 266) at_264 rfl rfl ?_
          refine s_ifF X (pc' := 269) at_266 (show (0 : Int32) = (0 : Int32) by decide) rfl ?_
          refine s_iloadN X (pc' := 270) at_269 rfl rfl ?_
          refine s_ifT X (pc' := 277) at_270 hl0 (by decide) (by decide) ?_
          refine s_iconst X (pc' := 278) at_277 (v := (0 : Int32)) rfl rfl ?_
          refine s_istore X (pc' := 280) (L' := #[.val (.int xa), .val (.int xb), .val (.int ln), .val (.int xf), .val (.ref f0), .val (.ref r0), .val (.int (0 : Int32)), .val (.ref i), .val (.ref r), .val (.ref mg), .val (.ref mg), .val (.ref o), .val (.ref oe), .val (.int (0 : Int32))]) at_278 rfl rfl ?_
          refine s_aload X (pc' := 282) at_280 rfl rfl rfl ?_
          refine s_virtual X (pc' := 285) (W := 0) (as' := []) (S := []) (k' := 36) (n' := 6017) at_282 (hw _ (List.mem_of_getElem? (i := 330) rfl)) (hw _ (List.mem_of_getElem? (i := 331) rfl)) (hw _ (List.mem_of_getElem? (i := 333) rfl)) (hw _ (List.mem_of_getElem? (i := 332) rfl)) (nface (hw _ (List.mem_of_getElem? (i := 333) rfl))) (by decide) own_pd14 rfl E_oe ((own_oip0 l Z a0 hw hEL oe _ (Fo.ext X.old)).payS (by simp) (hw _ (List.mem_of_getElem? (i := 334) rfl)) (hw _ (List.mem_of_getElem? (i := 327) rfl)) hEL (by decide) (by decide)) (Nat.le_of_ble_eq_true rfl) rfl rfl (by decide) (by decide) (by decide) (by decide) rfl (fun T h313 v_ ws_ X hgr_ q314 => ?_)
          obtain ⟨rfl, e_, rfl⟩ := q314
          rw [e_] at X
          show Go p e below _ T (mkF m 285 #[.val (.int xa), .val (.int xb), .val (.int ln), .val (.int xf), .val (.ref f0), .val (.ref r0), .val (.int (0 : Int32)), .val (.ref i), .val (.ref r), .val (.ref mg), .val (.ref mg), .val (.ref o), .val (.ref oe), .val (.int (0 : Int32))] [(.int (0 : Int32))])
          replace X := X.sub (ws' := []) (by simp)
          refine s_iload X (pc' := 287) at_285 rfl rfl ?_
          refine s_icmpT X (pc' := 292) at_287 (show (0 : Int32) = (0 : Int32) by decide) (by decide) (by decide) ?_
          refine s_iload X (pc' := 294) at_292 rfl rfl ?_
          refine s_ifT X (pc' := 308) at_294 (show (0 : Int32) = (0 : Int32) by decide) (by decide) (by decide) ?_
          refine s_iconst X (pc' := 309) at_308 (v := (1 : Int32)) rfl rfl ?_
          exact s_iretN X hEL (ws' := []) (t := .boolean) at_309 rfl (by simp) (by decide) (by decide) (fun x q => by simp at q) rfl
        · refine s_astore X (pc' := 146) (L' := #[.val (.int xa), .val (.int xb), .val (.int ln), .val (.int xf), .val (.ref f0), .val (.ref r0), .val (.int (0 : Int32)), .val (.ref i), .unset, .unset, .unset, .unset, .unset, .unset]) at_144 rfl rfl rfl ?_
          refine s_aload X (pc' := 148) at_146 rfl rfl rfl ?_
          refine s_static X (pc' := 151) (W := 0) (as' := [(.ref i)]) (S := []) (k' := 35) (n' := 6016) at_148 (hw _ (List.mem_of_getElem? (i := 203) rfl)) (hw _ (List.mem_of_getElem? (i := 204) rfl)) (hw _ (List.mem_of_getElem? (i := 205) rfl)) (hw _ (List.mem_of_getElem? (i := 206) rfl)) (by decide) own_pd34 rfl ((own_of l Z a0 hw hEL i _ E_i F_i_detailMessage Ik Us Ss hlt).payS (by simp) (hw _ (List.mem_of_getElem? (i := 206) rfl)) (hw _ (List.mem_of_getElem? (i := 205) rfl)) hEL (by decide) (by decide)) (Nat.le_of_ble_eq_true rfl) rfl rfl (by decide) (by decide) (by decide) (by decide) rfl (fun T h315 v_ ws_ X hgr_ q316 => ?_)
          obtain ⟨r, rfl, E_, hne, E_r, N_r, F_r_kind, F_r_detailMessage, F_r_cause, rfl⟩ := q316
          show Go p e below _ T (mkF m 151 #[.val (.int xa), .val (.int xb), .val (.int ln), .val (.int xf), .val (.ref f0), .val (.ref r0), .val (.int (0 : Int32)), .val (.ref i), .unset, .unset, .unset, .unset, .unset, .unset] [(.ref r)])
          replace X := X.sub (ws' := []) (by simp)
          replace E_f0 := E_f0.ext E_
          replace E_r0 := E_r0.ext E_
          replace E_i := E_i.ext E_
          replace E_mg := E_mg.ext E_
          replace F_i_file := F_i_file.ext E_
          replace F_i_line := F_i_line.ext E_
          replace F_i_reason := F_i_reason.ext E_
          replace F_i_detailMessage := F_i_detailMessage.ext E_
          refine s_astore X (pc' := 153) (L' := #[.val (.int xa), .val (.int xb), .val (.int ln), .val (.int xf), .val (.ref f0), .val (.ref r0), .val (.int (0 : Int32)), .val (.ref i), .val (.ref r), .unset, .unset, .unset, .unset, .unset]) at_151 rfl rfl rfl ?_
          refine s_aload X (pc' := 155) at_153 rfl rfl rfl ?_
          refine s_virtual X (pc' := 158) (W := 0) (as' := []) (S := []) (k' := 35) (n' := 6016) at_155 (hw _ (List.mem_of_getElem? (i := 241) rfl)) (hw _ (List.mem_of_getElem? (i := 242) rfl)) (hw _ (List.mem_of_getElem? (i := 244) rfl)) (hw _ (List.mem_of_getElem? (i := 243) rfl)) (nface (hw _ (List.mem_of_getElem? (i := 244) rfl))) (by decide) own_pd35 rfl E_r ((own_kind l Z a0 hw hEL r _ F_r_kind).payS (by simp) (hw _ (List.mem_of_getElem? (i := 245) rfl)) (hw _ (List.mem_of_getElem? (i := 205) rfl)) hEL (by decide) (by decide)) (Nat.le_of_ble_eq_true rfl) rfl rfl (by decide) (by decide) (by decide) (by decide) rfl (fun T h317 v_ ws_ X hgr_ q318 => ?_)
          obtain ⟨rfl, e_, rfl⟩ := q318
          rw [e_] at X
          show Go p e below _ T (mkF m 158 #[.val (.int xa), .val (.int xb), .val (.int ln), .val (.int xf), .val (.ref f0), .val (.ref r0), .val (.int (0 : Int32)), .val (.ref i), .val (.ref r), .unset, .unset, .unset, .unset, .unset] [(.ref kd)])
          replace X := X.sub (ws' := []) (by simp)
          refine s_gets X (pc' := 161) at_158 (hw _ (List.mem_of_getElem? (i := 246) rfl)) Via.refl Ik rfl (fun T X => ?_)
          refine s_acmpT X (pc' := 166) at_161 rfl rfl (by simp [XT.acmp]) (by decide) (by decide) ?_
          refine s_aload X (pc' := 168) at_166 rfl rfl rfl ?_
          refine s_up X (pc' := 171) (W := 0) (as' := []) (S := []) (k' := 35) (n' := 6016) at_168 (hw _ (List.mem_of_getElem? (i := 247) rfl)) (hw _ (List.mem_of_getElem? (i := 248) rfl)) (hw _ (List.mem_of_getElem? (i := 249) rfl)) (hw _ (List.mem_of_getElem? (i := 251) rfl)) (hw _ (List.mem_of_getElem? (i := 250) rfl)) (by decide) own_pd29 rfl E_r (gcPay (a0 := a0) hEL (show (Jvm.Cond.codeSync RoadKit.gcN RoadKit.gcB 1 (some (.object Bundle.tN))).before a0 Z = true from (hw _ (List.mem_of_getElem? (i := 252) rfl))) (hw _ (List.mem_of_getElem? (i := 250) rfl)) (hw _ (List.mem_of_getElem? (i := 158) rfl)) (hw _ (List.mem_of_getElem? (i := 161) rfl)) N_r F_r_cause rfl (fun z => hne (Value.ref.inj z)) (by decide) (by decide)) (Nat.le_of_ble_eq_true rfl) rfl rfl (by decide) (by decide) (by decide) (by decide) rfl (fun T h319 v_ ws_ X hgr_ q320 => ?_)
          obtain ⟨rfl, e_, rfl⟩ := q320
          rw [e_] at X
          show Go p e below _ T (mkF m 171 #[.val (.int xa), .val (.int xb), .val (.int ln), .val (.int xf), .val (.ref f0), .val (.ref r0), .val (.int (0 : Int32)), .val (.ref i), .val (.ref r), .unset, .unset, .unset, .unset, .unset] [(.ref i)])
          replace X := X.sub (ws' := []) (by simp)
          refine s_aload X (pc' := 173) at_171 rfl rfl rfl ?_
          refine s_acmpT X (pc' := 178) at_173 rfl rfl (by simp [XT.acmp]) (by decide) (by decide) ?_
          refine s_aload X (pc' := 180) at_178 rfl rfl rfl ?_
          refine s_up X (pc' := 183) (W := 0) (as' := []) (S := []) (k' := 35) (n' := 6016) at_180 (hw _ (List.mem_of_getElem? (i := 253) rfl)) (hw _ (List.mem_of_getElem? (i := 254) rfl)) (hw _ (List.mem_of_getElem? (i := 214) rfl)) (hw _ (List.mem_of_getElem? (i := 255) rfl)) (hw _ (List.mem_of_getElem? (i := 215) rfl)) (by decide) own_pd22 rfl E_r ((own_gm l Z a0 hw hEL r _ F_r_detailMessage).payS (by simp) (hw _ (List.mem_of_getElem? (i := 217) rfl)) (hw _ (List.mem_of_getElem? (i := 158) rfl)) hEL (by decide) (by decide)) (Nat.le_of_ble_eq_true rfl) rfl rfl (by decide) (by decide) (by decide) (by decide) rfl (fun T h321 v_ ws_ X hgr_ q322 => ?_)
          obtain ⟨rfl, e_, rfl⟩ := q322
          rw [e_] at X
          show Go p e below _ T (mkF m 183 #[.val (.int xa), .val (.int xb), .val (.int ln), .val (.int xf), .val (.ref f0), .val (.ref r0), .val (.int (0 : Int32)), .val (.ref i), .val (.ref r), .unset, .unset, .unset, .unset, .unset] [(.ref mg)])
          replace X := X.sub (ws' := []) (by simp)
          refine s_astore X (pc' := 185) (L' := #[.val (.int xa), .val (.int xb), .val (.int ln), .val (.int xf), .val (.ref f0), .val (.ref r0), .val (.int (0 : Int32)), .val (.ref i), .val (.ref r), .val (.ref mg), .unset, .unset, .unset, .unset]) at_183 rfl rfl rfl ?_
          refine s_aload X (pc' := 187) at_185 rfl rfl rfl ?_
          refine s_up X (pc' := 190) (W := 0) (as' := []) (S := []) (k' := 35) (n' := 6016) at_187 (hw _ (List.mem_of_getElem? (i := 256) rfl)) (hw _ (List.mem_of_getElem? (i := 213) rfl)) (hw _ (List.mem_of_getElem? (i := 214) rfl)) (hw _ (List.mem_of_getElem? (i := 216) rfl)) (hw _ (List.mem_of_getElem? (i := 215) rfl)) (by decide) own_pd22 rfl E_i ((own_gm l Z a0 hw hEL i _ F_i_detailMessage).payS (by simp) (hw _ (List.mem_of_getElem? (i := 217) rfl)) (hw _ (List.mem_of_getElem? (i := 158) rfl)) hEL (by decide) (by decide)) (Nat.le_of_ble_eq_true rfl) rfl rfl (by decide) (by decide) (by decide) (by decide) rfl (fun T h323 v_ ws_ X hgr_ q324 => ?_)
          obtain ⟨rfl, e_, rfl⟩ := q324
          rw [e_] at X
          show Go p e below _ T (mkF m 190 #[.val (.int xa), .val (.int xb), .val (.int ln), .val (.int xf), .val (.ref f0), .val (.ref r0), .val (.int (0 : Int32)), .val (.ref i), .val (.ref r), .val (.ref mg), .unset, .unset, .unset, .unset] [(.ref mg)])
          replace X := X.sub (ws' := []) (by simp)
          refine s_astore X (pc' := 192) (L' := #[.val (.int xa), .val (.int xb), .val (.int ln), .val (.int xf), .val (.ref f0), .val (.ref r0), .val (.int (0 : Int32)), .val (.ref i), .val (.ref r), .val (.ref mg), .val (.ref mg), .unset, .unset, .unset]) at_190 rfl rfl rfl ?_
          refine s_aload X (pc' := 194) at_192 rfl rfl rfl ?_
          refine s_ifnullF X (pc' := 197) at_194 rfl ?_
          refine s_aload X (pc' := 199) at_197 rfl rfl rfl ?_
          refine s_aload X (pc' := 201) at_199 rfl rfl rfl ?_
          refine s_virtual X (pc' := 204) (W := 0) (as' := [(.ref mg)]) (S := []) (k' := 35) (n' := 6016) at_201 (hw _ (List.mem_of_getElem? (i := 257) rfl)) (hw _ (List.mem_of_getElem? (i := 258) rfl)) (hw _ (List.mem_of_getElem? (i := 260) rfl)) (hw _ (List.mem_of_getElem? (i := 259) rfl)) (nface (hw _ (List.mem_of_getElem? (i := 260) rfl))) (by decide) own_pd36 rfl E_mg ((own_eqs l Z a0 hw hEL mg _).payS (by simp) (hw _ (List.mem_of_getElem? (i := 261) rfl)) (hw _ (List.mem_of_getElem? (i := 2) rfl)) hEL (by decide) (by decide)) (Nat.le_of_ble_eq_true rfl) rfl rfl (by decide) (by decide) (by decide) (by decide) rfl (fun T h325 v_ ws_ X hgr_ q326 => ?_)
          obtain ⟨rfl, e_, rfl⟩ := q326
          rw [e_] at X
          show Go p e below _ T (mkF m 204 #[.val (.int xa), .val (.int xb), .val (.int ln), .val (.int xf), .val (.ref f0), .val (.ref r0), .val (.int (0 : Int32)), .val (.ref i), .val (.ref r), .val (.ref mg), .val (.ref mg), .unset, .unset, .unset] [(.int (1 : Int32))])
          replace X := X.sub (ws' := []) (by simp)
          refine s_ifT X (pc' := 209) at_204 (show ¬ (1 : Int32) = (0 : Int32) by decide) (by decide) (by decide) ?_
          refine s_aload X (pc' := 211) at_209 rfl rfl rfl ?_
          refine s_virtual X (pc' := 214) (W := 0) (as' := []) (S := []) (k' := 36) (n' := 6017) at_211 (hw _ (List.mem_of_getElem? (i := 262) rfl)) (hw _ (List.mem_of_getElem? (i := 263) rfl)) (hw _ (List.mem_of_getElem? (i := 265) rfl)) (hw _ (List.mem_of_getElem? (i := 264) rfl)) (nface (hw _ (List.mem_of_getElem? (i := 265) rfl))) (by decide) own_pd37 rfl E_r ((own_rf l Z a0 hw hEL r _ E_r N_r F_r_cause E_i hne F_i_file F_r_kind Ik).payS (by simp) (hw _ (List.mem_of_getElem? (i := 266) rfl)) (hw _ (List.mem_of_getElem? (i := 205) rfl)) hEL (by decide) (by decide)) (Nat.le_of_ble_eq_true rfl) rfl rfl (by decide) (by decide) (by decide) (by decide) rfl (fun T h327 v_ ws_ X hgr_ q328 => ?_)
          obtain ⟨o, rfl, E_, E_o, F_o_value, rfl⟩ := q328
          show Go p e below _ T (mkF m 214 #[.val (.int xa), .val (.int xb), .val (.int ln), .val (.int xf), .val (.ref f0), .val (.ref r0), .val (.int (0 : Int32)), .val (.ref i), .val (.ref r), .val (.ref mg), .val (.ref mg), .unset, .unset, .unset] [(.ref o)])
          replace X := X.sub (ws' := []) (by simp)
          replace E_f0 := E_f0.ext E_
          replace E_r0 := E_r0.ext E_
          replace E_i := E_i.ext E_
          replace E_mg := E_mg.ext E_
          replace E_r := E_r.ext E_
          replace F_i_file := F_i_file.ext E_
          replace F_i_line := F_i_line.ext E_
          replace F_i_reason := F_i_reason.ext E_
          replace F_i_detailMessage := F_i_detailMessage.ext E_
          replace F_r_kind := F_r_kind.ext E_
          replace F_r_detailMessage := F_r_detailMessage.ext E_
          replace F_r_cause := F_r_cause.ext E_
          replace N_r := Unt.ext E_ N_r
          refine s_astore X (pc' := 216) (L' := #[.val (.int xa), .val (.int xb), .val (.int ln), .val (.int xf), .val (.ref f0), .val (.ref r0), .val (.int (0 : Int32)), .val (.ref i), .val (.ref r), .val (.ref mg), .val (.ref mg), .val (.ref o), .unset, .unset]) at_214 rfl rfl rfl ?_
          refine s_aload X (pc' := 218) at_216 rfl rfl rfl ?_
          refine s_virtual X (pc' := 221) (W := 0) (as' := []) (S := []) (k' := 36) (n' := 6017) at_218 (hw _ (List.mem_of_getElem? (i := 295) rfl)) (hw _ (List.mem_of_getElem? (i := 296) rfl)) (hw _ (List.mem_of_getElem? (i := 298) rfl)) (hw _ (List.mem_of_getElem? (i := 297) rfl)) (nface (hw _ (List.mem_of_getElem? (i := 298) rfl))) (by decide) own_pd14 rfl E_o ((own_ip l Z a0 hw hEL o _ F_o_value).payS (by simp) (hw _ (List.mem_of_getElem? (i := 299) rfl)) (hw _ (List.mem_of_getElem? (i := 280) rfl)) hEL (by decide) (by decide)) (Nat.le_of_ble_eq_true rfl) rfl rfl (by decide) (by decide) (by decide) (by decide) rfl (fun T h329 v_ ws_ X hgr_ q330 => ?_)
          obtain ⟨rfl, e_, rfl⟩ := q330
          rw [e_] at X
          show Go p e below _ T (mkF m 221 #[.val (.int xa), .val (.int xb), .val (.int ln), .val (.int xf), .val (.ref f0), .val (.ref r0), .val (.int (0 : Int32)), .val (.ref i), .val (.ref r), .val (.ref mg), .val (.ref mg), .val (.ref o), .unset, .unset] [(.int (1 : Int32))])
          replace X := X.sub (ws' := []) (by simp)
          refine s_ifF X (pc' := 224) at_221 (show ¬ (1 : Int32) = (0 : Int32) by decide) rfl ?_
          refine s_aload X (pc' := 226) at_224 rfl rfl rfl ?_
          refine s_virtual X (pc' := 229) (W := 0) (as' := []) (S := []) (k' := 36) (n' := 6017) at_226 (hw _ (List.mem_of_getElem? (i := 300) rfl)) (hw _ (List.mem_of_getElem? (i := 301) rfl)) (hw _ (List.mem_of_getElem? (i := 303) rfl)) (hw _ (List.mem_of_getElem? (i := 302) rfl)) (nface (hw _ (List.mem_of_getElem? (i := 303) rfl))) (by decide) own_pd38 rfl E_o ((own_get l Z a0 hw hEL o _ F_o_value).payS (by simp) (hw _ (List.mem_of_getElem? (i := 304) rfl)) (hw _ (List.mem_of_getElem? (i := 280) rfl)) hEL (by decide) (by decide)) (Nat.le_of_ble_eq_true rfl) rfl rfl (by decide) (by decide) (by decide) (by decide) rfl (fun T h331 v_ ws_ X hgr_ q332 => ?_)
          obtain ⟨rfl, e_, rfl⟩ := q332
          rw [e_] at X
          show Go p e below _ T (mkF m 229 #[.val (.int xa), .val (.int xb), .val (.int ln), .val (.int xf), .val (.ref f0), .val (.ref r0), .val (.int (0 : Int32)), .val (.ref i), .val (.ref r), .val (.ref mg), .val (.ref mg), .val (.ref o), .unset, .unset] [(.ref f0)])
          replace X := X.sub (ws' := []) (by simp)
          refine s_castY X (pc' := 232) at_229 (hw _ (List.mem_of_getElem? (i := 0) rfl)) (Ins.self E_f0) rfl (fun T X => ?_)
          refine s_aload X (pc' := 234) at_232 rfl rfl rfl ?_
          refine s_virtual X (pc' := 237) (W := 0) (as' := [(.ref f0)]) (S := []) (k' := 36) (n' := 6017) at_234 (hw _ (List.mem_of_getElem? (i := 257) rfl)) (hw _ (List.mem_of_getElem? (i := 258) rfl)) (hw _ (List.mem_of_getElem? (i := 260) rfl)) (hw _ (List.mem_of_getElem? (i := 259) rfl)) (nface (hw _ (List.mem_of_getElem? (i := 260) rfl))) (by decide) own_pd36 rfl E_f0 ((own_eqs l Z a0 hw hEL f0 _).payS (by simp) (hw _ (List.mem_of_getElem? (i := 261) rfl)) (hw _ (List.mem_of_getElem? (i := 2) rfl)) hEL (by decide) (by decide)) (Nat.le_of_ble_eq_true rfl) rfl rfl (by decide) (by decide) (by decide) (by decide) rfl (fun T h333 v_ ws_ X hgr_ q334 => ?_)
          obtain ⟨rfl, e_, rfl⟩ := q334
          rw [e_] at X
          show Go p e below _ T (mkF m 237 #[.val (.int xa), .val (.int xb), .val (.int ln), .val (.int xf), .val (.ref f0), .val (.ref r0), .val (.int (0 : Int32)), .val (.ref i), .val (.ref r), .val (.ref mg), .val (.ref mg), .val (.ref o), .unset, .unset] [(.int (1 : Int32))])
          replace X := X.sub (ws' := []) (by simp)
          refine s_ifT X (pc' := 242) at_237 (show ¬ (1 : Int32) = (0 : Int32) by decide) (by decide) (by decide) ?_
          refine s_aload X (pc' := 244) at_242 rfl rfl rfl ?_
          refine s_virtual X (pc' := 247) (W := 0) (as' := []) (S := []) (k' := 36) (n' := 6017) at_244 (hw _ (List.mem_of_getElem? (i := 305) rfl)) (hw _ (List.mem_of_getElem? (i := 306) rfl)) (hw _ (List.mem_of_getElem? (i := 308) rfl)) (hw _ (List.mem_of_getElem? (i := 307) rfl)) (nface (hw _ (List.mem_of_getElem? (i := 308) rfl))) (by decide) own_pd22 rfl E_r ((own_rr l Z a0 hw hEL r _ E_r N_r F_r_cause E_i hne F_i_reason F_r_kind Ik).payS (by simp) (hw _ (List.mem_of_getElem? (i := 309) rfl)) (hw _ (List.mem_of_getElem? (i := 205) rfl)) hEL (by decide) (by decide)) (Nat.le_of_ble_eq_true rfl) rfl rfl (by decide) (by decide) (by decide) (by decide) rfl (fun T h335 v_ ws_ X hgr_ q336 => ?_)
          obtain ⟨rfl, e_, rfl⟩ := q336
          rw [e_] at X
          show Go p e below _ T (mkF m 247 #[.val (.int xa), .val (.int xb), .val (.int ln), .val (.int xf), .val (.ref f0), .val (.ref r0), .val (.int (0 : Int32)), .val (.ref i), .val (.ref r), .val (.ref mg), .val (.ref mg), .val (.ref o), .unset, .unset] [(.ref r0)])
          replace X := X.sub (ws' := []) (by simp)
          refine s_aload X (pc' := 249) at_247 rfl rfl rfl ?_
          refine s_virtual X (pc' := 252) (W := 0) (as' := [(.ref r0)]) (S := []) (k' := 36) (n' := 6017) at_249 (hw _ (List.mem_of_getElem? (i := 257) rfl)) (hw _ (List.mem_of_getElem? (i := 258) rfl)) (hw _ (List.mem_of_getElem? (i := 260) rfl)) (hw _ (List.mem_of_getElem? (i := 259) rfl)) (nface (hw _ (List.mem_of_getElem? (i := 260) rfl))) (by decide) own_pd36 rfl E_r0 ((own_eqs l Z a0 hw hEL r0 _).payS (by simp) (hw _ (List.mem_of_getElem? (i := 261) rfl)) (hw _ (List.mem_of_getElem? (i := 2) rfl)) hEL (by decide) (by decide)) (Nat.le_of_ble_eq_true rfl) rfl rfl (by decide) (by decide) (by decide) (by decide) rfl (fun T h337 v_ ws_ X hgr_ q338 => ?_)
          obtain ⟨rfl, e_, rfl⟩ := q338
          rw [e_] at X
          show Go p e below _ T (mkF m 252 #[.val (.int xa), .val (.int xb), .val (.int ln), .val (.int xf), .val (.ref f0), .val (.ref r0), .val (.int (0 : Int32)), .val (.ref i), .val (.ref r), .val (.ref mg), .val (.ref mg), .val (.ref o), .unset, .unset] [(.int (1 : Int32))])
          replace X := X.sub (ws' := []) (by simp)
          refine s_ifT X (pc' := 257) at_252 (show ¬ (1 : Int32) = (0 : Int32) by decide) (by decide) (by decide) ?_
          refine s_aload X (pc' := 259) at_257 rfl rfl rfl ?_
          refine s_virtual X (pc' := 262) (W := 0) (as' := []) (S := []) (k' := 37) (n' := 6019) at_259 (hw _ (List.mem_of_getElem? (i := 315) rfl)) (hw _ (List.mem_of_getElem? (i := 316) rfl)) (hw _ (List.mem_of_getElem? (i := 318) rfl)) (hw _ (List.mem_of_getElem? (i := 317) rfl)) (nface (hw _ (List.mem_of_getElem? (i := 318) rfl))) (by decide) own_pd23 rfl E_r ((own_rl1 l Z a0 hw hEL r ln _ E_r N_r F_r_cause E_i hne F_i_line hl0 F_r_kind Ik).payS (by simp) (hw _ (List.mem_of_getElem? (i := 319) rfl)) (hw _ (List.mem_of_getElem? (i := 205) rfl)) hEL (by decide) (by decide)) (Nat.le_of_ble_eq_true rfl) rfl rfl (by decide) (by decide) (by decide) (by decide) rfl (fun T h339 v_ ws_ X hgr_ q340 => ?_)
          obtain ⟨ol, rfl, E_, E_ol, G1_, G2_, rfl⟩ := q340
          show Go p e below _ T (mkF m 262 #[.val (.int xa), .val (.int xb), .val (.int ln), .val (.int xf), .val (.ref f0), .val (.ref r0), .val (.int (0 : Int32)), .val (.ref i), .val (.ref r), .val (.ref mg), .val (.ref mg), .val (.ref o), .unset, .unset] [(.ref ol)])
          replace X := X.sub (ws' := []) (by simp)
          refine s_astore X (pc' := 264) (L' := #[.val (.int xa), .val (.int xb), .val (.int ln), .val (.int xf), .val (.ref f0), .val (.ref r0), .val (.int (0 : Int32)), .val (.ref i), .val (.ref r), .val (.ref mg), .val (.ref mg), .val (.ref o), .val (.ref ol), .unset]) at_262 rfl rfl rfl ?_
          refine s_iload X (pc' := 266) at_264 rfl rfl ?_
          refine s_ifF X (pc' := 269) at_266 (show (0 : Int32) = (0 : Int32) by decide) rfl ?_
          refine s_iloadN X (pc' := 270) at_269 rfl rfl ?_
          refine s_ifF X (pc' := 273) at_270 hl0 rfl ?_
          refine s_iconst X (pc' := 274) at_273 (v := (1 : Int32)) rfl rfl ?_
          refine s_goto X (pc' := 278) at_274 (by decide) (by decide) ?_
          refine s_istore X (pc' := 280) (L' := #[.val (.int xa), .val (.int xb), .val (.int ln), .val (.int xf), .val (.ref f0), .val (.ref r0), .val (.int (0 : Int32)), .val (.ref i), .val (.ref r), .val (.ref mg), .val (.ref mg), .val (.ref o), .val (.ref ol), .val (.int (1 : Int32))]) at_278 rfl rfl ?_
          refine s_aload X (pc' := 282) at_280 rfl rfl rfl ?_
          refine s_virtual X (pc' := 285) (W := 0) (as' := []) (S := []) (k' := 37) (n' := 6019) at_282 (hw _ (List.mem_of_getElem? (i := 330) rfl)) (hw _ (List.mem_of_getElem? (i := 331) rfl)) (hw _ (List.mem_of_getElem? (i := 333) rfl)) (hw _ (List.mem_of_getElem? (i := 332) rfl)) (nface (hw _ (List.mem_of_getElem? (i := 333) rfl))) (by decide) own_pd14 rfl E_ol ((own_oip1 l Z a0 hw hEL ol _ G1_).payS (by simp) (hw _ (List.mem_of_getElem? (i := 334) rfl)) (hw _ (List.mem_of_getElem? (i := 327) rfl)) hEL (by decide) (by decide)) (Nat.le_of_ble_eq_true rfl) rfl rfl (by decide) (by decide) (by decide) (by decide) rfl (fun T h341 v_ ws_ X hgr_ q342 => ?_)
          obtain ⟨rfl, e_, rfl⟩ := q342
          rw [e_] at X
          show Go p e below _ T (mkF m 285 #[.val (.int xa), .val (.int xb), .val (.int ln), .val (.int xf), .val (.ref f0), .val (.ref r0), .val (.int (0 : Int32)), .val (.ref i), .val (.ref r), .val (.ref mg), .val (.ref mg), .val (.ref o), .val (.ref ol), .val (.int (1 : Int32))] [(.int (1 : Int32))])
          replace X := X.sub (ws' := []) (by simp)
          refine s_iload X (pc' := 287) at_285 rfl rfl ?_
          refine s_icmpT X (pc' := 292) at_287 (show (1 : Int32) = (1 : Int32) by decide) (by decide) (by decide) ?_
          refine s_iload X (pc' := 294) at_292 rfl rfl ?_
          refine s_ifF X (pc' := 297) at_294 (show ¬ (1 : Int32) = (0 : Int32) by decide) rfl ?_
          refine s_aload X (pc' := 299) at_297 rfl rfl rfl ?_
          refine s_virtual X (pc' := 302) (W := 0) (as' := []) (S := []) (k' := 37) (n' := 6019) at_299 (hw _ (List.mem_of_getElem? (i := 372) rfl)) (hw _ (List.mem_of_getElem? (i := 373) rfl)) (hw _ (List.mem_of_getElem? (i := 375) rfl)) (hw _ (List.mem_of_getElem? (i := 374) rfl)) (nface (hw _ (List.mem_of_getElem? (i := 375) rfl))) (by decide) own_pd7 rfl E_ol ((own_oga l Z a0 hw hEL ol _ G1_ G2_).payS (by simp) (hw _ (List.mem_of_getElem? (i := 376) rfl)) (hw _ (List.mem_of_getElem? (i := 327) rfl)) hEL (by decide) (by decide)) (Nat.le_of_ble_eq_true rfl) rfl rfl (by decide) (by decide) (by decide) (by decide) rfl (fun T h343 v_ ws_ X hgr_ q344 => ?_)
          obtain ⟨rfl, e_, rfl⟩ := q344
          rw [e_] at X
          show Go p e below _ T (mkF m 302 #[.val (.int xa), .val (.int xb), .val (.int ln), .val (.int xf), .val (.ref f0), .val (.ref r0), .val (.int (0 : Int32)), .val (.ref i), .val (.ref r), .val (.ref mg), .val (.ref mg), .val (.ref o), .val (.ref ol), .val (.int (1 : Int32))] [(.int ln)])
          replace X := X.sub (ws' := []) (by simp)
          refine s_iloadN X (pc' := 303) at_302 rfl rfl ?_
          refine s_icmpT X (pc' := 308) at_303 (show ln = ln from rfl) (by decide) (by decide) ?_
          refine s_iconst X (pc' := 309) at_308 (v := (1 : Int32)) rfl rfl ?_
          exact s_iretN X hEL (ws' := []) (t := .boolean) at_309 rfl (by simp) (by decide) (by decide) (fun x q => by simp at q) rfl
      · refine s_iconst X (pc' := 107) at_106 (v := (1 : Int32)) rfl rfl ?_
        refine s_goto X (pc' := 111) at_107 (by decide) (by decide) ?_
        refine s_istore X (pc' := 113) (L' := #[.val (.int xa), .val (.int xb), .val (.int ln), .val (.int xf), .val (.ref f0), .val (.ref r0), .val (.int (1 : Int32)), .unset, .unset, .unset, .unset, .unset, .unset, .unset]) at_111 rfl rfl ?_
        refine s_iload X (pc' := 115) at_113 rfl rfl ?_
        refine s_ifF X (pc' := 118) at_115 (show ¬ (1 : Int32) = (0 : Int32) by decide) rfl ?_
        refine s_new X (pc' := 121) (k' := 17) (n' := 57) at_118 (hw _ (List.mem_of_getElem? (i := 30) rfl)) (hw _ (List.mem_of_getElem? (i := 31) rfl)) (hw _ (List.mem_of_getElem? (i := 32) rfl)) (by decide) (by decide) (by decide) (by decide) rfl (fun T h250 b249 gb_b249 X' E251 E_b249 D_b249 U_b249 => ?_)
        have g_b249 : Z.heap.size ≤ b249 := by rw [gb_b249]; exact X.lt
        have ne_f0_b249 : f0 ≠ b249 := Nat.ne_of_lt (by rw [gb_b249]; exact S_f0.lt)
        have ne_r0_b249 : r0 ≠ b249 := Nat.ne_of_lt (by rw [gb_b249]; exact S_r0.lt)
        replace S_f0 := S_f0.ext E251
        replace S_r0 := S_r0.ext E251
        replace X := X'
        have F_b249_cause : Fld Z h250 b249 "java/lang/Throwable" "cause" "Ljava/lang/Throwable;" .null := D_b249 (Or.inl (hw _ (List.mem_of_getElem? (i := 162) rfl))) (ty := (.object "java/lang/Throwable")) (by decide)
        have F_b249_stackTrace : Fld Z h250 b249 "java/lang/Throwable" "stackTrace" "[Ljava/lang/StackTraceElement;" .null := D_b249 (Or.inl (hw _ (List.mem_of_getElem? (i := 165) rfl))) (ty := (.array (.object "java/lang/StackTraceElement"))) (by decide)
        have F_b249_suppressedExceptions : Fld Z h250 b249 "java/lang/Throwable" "suppressedExceptions" "Ljava/util/List;" .null := D_b249 (Or.inl (hw _ (List.mem_of_getElem? (i := 168) rfl))) (ty := (.object "java/util/List")) (by decide)
        have F_b249_detailMessage : Fld Z h250 b249 "java/lang/Throwable" "detailMessage" "Ljava/lang/String;" .null := D_b249 (Or.inl (hw _ (List.mem_of_getElem? (i := 192) rfl))) (ty := (.object "java/lang/String")) (by decide)
        have F_b249_backtrace : Fld Z h250 b249 "java/lang/Throwable" "backtrace" "Ljava/lang/Object;" .null := D_b249 (Or.inl (hw _ (List.mem_of_getElem? (i := 193) rfl))) (ty := (.object "java/lang/Object")) (by decide)
        have F_b249_depth : Fld Z h250 b249 "java/lang/Throwable" "depth" "I" (.int (0 : Int32)) := D_b249 (Or.inl (hw _ (List.mem_of_getElem? (i := 194) rfl))) (ty := .int) (by decide)
        have F_b249_file : Fld Z h250 b249 "com/example/vestwright/vestwright/input/InputException" "file" "Ljava/lang/String;" .null := D_b249 (Or.inr (hw _ (List.mem_of_getElem? (i := 198) rfl))) (ty := (.object "java/lang/String")) (by decide)
        have F_b249_line : Fld Z h250 b249 "com/example/vestwright/vestwright/input/InputException" "line" "I" (.int (0 : Int32)) := D_b249 (Or.inr (hw _ (List.mem_of_getElem? (i := 200) rfl))) (ty := .int) (by decide)
        have F_b249_reason : Fld Z h250 b249 "com/example/vestwright/vestwright/input/InputException" "reason" "Ljava/lang/String;" .null := D_b249 (Or.inr (hw _ (List.mem_of_getElem? (i := 202) rfl))) (ty := (.object "java/lang/String")) (by decide)
        refine s_dup X (pc' := 122) at_121 rfl rfl ?_
        refine s_aload X (pc' := 124) at_122 rfl rfl rfl ?_
        refine s_aload X (pc' := 126) at_124 rfl rfl rfl ?_
        have E_f0 := S_f0.exa
        have E_r0 := S_r0.exa
        refine s_special X (pc' := 129) (W := 1) (as' := [(.ref f0), (.ref r0)]) (S := [(.ref b249)]) (k' := 33) (n' := 3257) at_126 rfl (hw _ (List.mem_of_getElem? (i := 33) rfl)) (hw _ (List.mem_of_getElem? (i := 34) rfl)) (hw _ (List.mem_of_getElem? (i := 35) rfl)) (by decide) own_pd33 rfl ((own_ix2 l Z a0 hw hEL b249 f0 r0 _ g_b249 E_b249 U_b249 F_b249_cause F_b249_stackTrace F_b249_suppressedExceptions F_b249_backtrace F_b249_detailMessage F_b249_file F_b249_line F_b249_reason S_f0 S_r0 hfs hrs hfl hrl Us Ss hlt dg O2 P5).payS (by simp) (hw _ (List.mem_of_getElem? (i := 35) rfl)) (hw _ (List.mem_of_getElem? (i := 32) rfl)) hEL (by decide) (by decide)) (Nat.le_of_ble_eq_true rfl) rfl rfl (by decide) (by decide) (by decide) (by decide) rfl (fun T h252 v_ ws_ X hgr_ q253 => ?_)
        obtain ⟨mg, rfl, K_, E'_, F_i_file, F_i_line, F_i_reason, F_i_detailMessage, E_mg, rfl⟩ := q253
        show Go p e below _ T (mkF m 129 #[.val (.int xa), .val (.int xb), .val (.int ln), .val (.int xf), .val (.ref f0), .val (.ref r0), .val (.int (1 : Int32)), .unset, .unset, .unset, .unset, .unset, .unset, .unset] [(.ref b249)])
        replace X := X.sub (ws' := []) (by simp)
        replace E_f0 := E_f0.keep K_
        replace E_r0 := E_r0.keep K_
        obtain ⟨i, gi⟩ : ∃ z, z = b249 := ⟨_, rfl⟩
        rw [← gi] at E'_ F_i_file F_i_line F_i_reason F_i_detailMessage
        rw [← gi]
        have E_i := E'_
        refine s_goto X (pc' := 144) at_129 (by decide) (by decide) ?_
        refine s_astore X (pc' := 146) (L' := #[.val (.int xa), .val (.int xb), .val (.int ln), .val (.int xf), .val (.ref f0), .val (.ref r0), .val (.int (1 : Int32)), .val (.ref i), .unset, .unset, .unset, .unset, .unset, .unset]) at_144 rfl rfl rfl ?_
        refine s_aload X (pc' := 148) at_146 rfl rfl rfl ?_
        refine s_static X (pc' := 151) (W := 0) (as' := [(.ref i)]) (S := []) (k' := 35) (n' := 6016) at_148 (hw _ (List.mem_of_getElem? (i := 203) rfl)) (hw _ (List.mem_of_getElem? (i := 204) rfl)) (hw _ (List.mem_of_getElem? (i := 205) rfl)) (hw _ (List.mem_of_getElem? (i := 206) rfl)) (by decide) own_pd34 rfl ((own_of l Z a0 hw hEL i _ E_i F_i_detailMessage Ik Us Ss hlt).payS (by simp) (hw _ (List.mem_of_getElem? (i := 206) rfl)) (hw _ (List.mem_of_getElem? (i := 205) rfl)) hEL (by decide) (by decide)) (Nat.le_of_ble_eq_true rfl) rfl rfl (by decide) (by decide) (by decide) (by decide) rfl (fun T h254 v_ ws_ X hgr_ q255 => ?_)
        obtain ⟨r, rfl, E_, hne, E_r, N_r, F_r_kind, F_r_detailMessage, F_r_cause, rfl⟩ := q255
        show Go p e below _ T (mkF m 151 #[.val (.int xa), .val (.int xb), .val (.int ln), .val (.int xf), .val (.ref f0), .val (.ref r0), .val (.int (1 : Int32)), .val (.ref i), .unset, .unset, .unset, .unset, .unset, .unset] [(.ref r)])
        replace X := X.sub (ws' := []) (by simp)
        replace E_f0 := E_f0.ext E_
        replace E_r0 := E_r0.ext E_
        replace E_i := E_i.ext E_
        replace E_mg := E_mg.ext E_
        replace F_i_file := F_i_file.ext E_
        replace F_i_line := F_i_line.ext E_
        replace F_i_reason := F_i_reason.ext E_
        replace F_i_detailMessage := F_i_detailMessage.ext E_
        refine s_astore X (pc' := 153) (L' := #[.val (.int xa), .val (.int xb), .val (.int ln), .val (.int xf), .val (.ref f0), .val (.ref r0), .val (.int (1 : Int32)), .val (.ref i), .val (.ref r), .unset, .unset, .unset, .unset, .unset]) at_151 rfl rfl rfl ?_
        refine s_aload X (pc' := 155) at_153 rfl rfl rfl ?_
        refine s_virtual X (pc' := 158) (W := 0) (as' := []) (S := []) (k' := 35) (n' := 6016) at_155 (hw _ (List.mem_of_getElem? (i := 241) rfl)) (hw _ (List.mem_of_getElem? (i := 242) rfl)) (hw _ (List.mem_of_getElem? (i := 244) rfl)) (hw _ (List.mem_of_getElem? (i := 243) rfl)) (nface (hw _ (List.mem_of_getElem? (i := 244) rfl))) (by decide) own_pd35 rfl E_r ((own_kind l Z a0 hw hEL r _ F_r_kind).payS (by simp) (hw _ (List.mem_of_getElem? (i := 245) rfl)) (hw _ (List.mem_of_getElem? (i := 205) rfl)) hEL (by decide) (by decide)) (Nat.le_of_ble_eq_true rfl) rfl rfl (by decide) (by decide) (by decide) (by decide) rfl (fun T h256 v_ ws_ X hgr_ q257 => ?_)
        obtain ⟨rfl, e_, rfl⟩ := q257
        rw [e_] at X
        show Go p e below _ T (mkF m 158 #[.val (.int xa), .val (.int xb), .val (.int ln), .val (.int xf), .val (.ref f0), .val (.ref r0), .val (.int (1 : Int32)), .val (.ref i), .val (.ref r), .unset, .unset, .unset, .unset, .unset] [(.ref kd)])
        replace X := X.sub (ws' := []) (by simp)
        refine s_gets X (pc' := 161) at_158 (hw _ (List.mem_of_getElem? (i := 246) rfl)) Via.refl Ik rfl (fun T X => ?_)
        refine s_acmpT X (pc' := 166) at_161 rfl rfl (by simp [XT.acmp]) (by decide) (by decide) ?_
        refine s_aload X (pc' := 168) at_166 rfl rfl rfl ?_
        refine s_up X (pc' := 171) (W := 0) (as' := []) (S := []) (k' := 35) (n' := 6016) at_168 (hw _ (List.mem_of_getElem? (i := 247) rfl)) (hw _ (List.mem_of_getElem? (i := 248) rfl)) (hw _ (List.mem_of_getElem? (i := 249) rfl)) (hw _ (List.mem_of_getElem? (i := 251) rfl)) (hw _ (List.mem_of_getElem? (i := 250) rfl)) (by decide) own_pd29 rfl E_r (gcPay (a0 := a0) hEL (show (Jvm.Cond.codeSync RoadKit.gcN RoadKit.gcB 1 (some (.object Bundle.tN))).before a0 Z = true from (hw _ (List.mem_of_getElem? (i := 252) rfl))) (hw _ (List.mem_of_getElem? (i := 250) rfl)) (hw _ (List.mem_of_getElem? (i := 158) rfl)) (hw _ (List.mem_of_getElem? (i := 161) rfl)) N_r F_r_cause rfl (fun z => hne (Value.ref.inj z)) (by decide) (by decide)) (Nat.le_of_ble_eq_true rfl) rfl rfl (by decide) (by decide) (by decide) (by decide) rfl (fun T h258 v_ ws_ X hgr_ q259 => ?_)
        obtain ⟨rfl, e_, rfl⟩ := q259
        rw [e_] at X
        show Go p e below _ T (mkF m 171 #[.val (.int xa), .val (.int xb), .val (.int ln), .val (.int xf), .val (.ref f0), .val (.ref r0), .val (.int (1 : Int32)), .val (.ref i), .val (.ref r), .unset, .unset, .unset, .unset, .unset] [(.ref i)])
        replace X := X.sub (ws' := []) (by simp)
        refine s_aload X (pc' := 173) at_171 rfl rfl rfl ?_
        refine s_acmpT X (pc' := 178) at_173 rfl rfl (by simp [XT.acmp]) (by decide) (by decide) ?_
        refine s_aload X (pc' := 180) at_178 rfl rfl rfl ?_
        refine s_up X (pc' := 183) (W := 0) (as' := []) (S := []) (k' := 35) (n' := 6016) at_180 (hw _ (List.mem_of_getElem? (i := 253) rfl)) (hw _ (List.mem_of_getElem? (i := 254) rfl)) (hw _ (List.mem_of_getElem? (i := 214) rfl)) (hw _ (List.mem_of_getElem? (i := 255) rfl)) (hw _ (List.mem_of_getElem? (i := 215) rfl)) (by decide) own_pd22 rfl E_r ((own_gm l Z a0 hw hEL r _ F_r_detailMessage).payS (by simp) (hw _ (List.mem_of_getElem? (i := 217) rfl)) (hw _ (List.mem_of_getElem? (i := 158) rfl)) hEL (by decide) (by decide)) (Nat.le_of_ble_eq_true rfl) rfl rfl (by decide) (by decide) (by decide) (by decide) rfl (fun T h260 v_ ws_ X hgr_ q261 => ?_)
        obtain ⟨rfl, e_, rfl⟩ := q261
        rw [e_] at X
        show Go p e below _ T (mkF m 183 #[.val (.int xa), .val (.int xb), .val (.int ln), .val (.int xf), .val (.ref f0), .val (.ref r0), .val (.int (1 : Int32)), .val (.ref i), .val (.ref r), .unset, .unset, .unset, .unset, .unset] [(.ref mg)])
        replace X := X.sub (ws' := []) (by simp)
        refine s_astore X (pc' := 185) (L' := #[.val (.int xa), .val (.int xb), .val (.int ln), .val (.int xf), .val (.ref f0), .val (.ref r0), .val (.int (1 : Int32)), .val (.ref i), .val (.ref r), .val (.ref mg), .unset, .unset, .unset, .unset]) at_183 rfl rfl rfl ?_
        refine s_aload X (pc' := 187) at_185 rfl rfl rfl ?_
        refine s_up X (pc' := 190) (W := 0) (as' := []) (S := []) (k' := 35) (n' := 6016) at_187 (hw _ (List.mem_of_getElem? (i := 256) rfl)) (hw _ (List.mem_of_getElem? (i := 213) rfl)) (hw _ (List.mem_of_getElem? (i := 214) rfl)) (hw _ (List.mem_of_getElem? (i := 216) rfl)) (hw _ (List.mem_of_getElem? (i := 215) rfl)) (by decide) own_pd22 rfl E_i ((own_gm l Z a0 hw hEL i _ F_i_detailMessage).payS (by simp) (hw _ (List.mem_of_getElem? (i := 217) rfl)) (hw _ (List.mem_of_getElem? (i := 158) rfl)) hEL (by decide) (by decide)) (Nat.le_of_ble_eq_true rfl) rfl rfl (by decide) (by decide) (by decide) (by decide) rfl (fun T h262 v_ ws_ X hgr_ q263 => ?_)
        obtain ⟨rfl, e_, rfl⟩ := q263
        rw [e_] at X
        show Go p e below _ T (mkF m 190 #[.val (.int xa), .val (.int xb), .val (.int ln), .val (.int xf), .val (.ref f0), .val (.ref r0), .val (.int (1 : Int32)), .val (.ref i), .val (.ref r), .val (.ref mg), .unset, .unset, .unset, .unset] [(.ref mg)])
        replace X := X.sub (ws' := []) (by simp)
        refine s_astore X (pc' := 192) (L' := #[.val (.int xa), .val (.int xb), .val (.int ln), .val (.int xf), .val (.ref f0), .val (.ref r0), .val (.int (1 : Int32)), .val (.ref i), .val (.ref r), .val (.ref mg), .val (.ref mg), .unset, .unset, .unset]) at_190 rfl rfl rfl ?_
        refine s_aload X (pc' := 194) at_192 rfl rfl rfl ?_
        refine s_ifnullF X (pc' := 197) at_194 rfl ?_
        refine s_aload X (pc' := 199) at_197 rfl rfl rfl ?_
        refine s_aload X (pc' := 201) at_199 rfl rfl rfl ?_
        refine s_virtual X (pc' := 204) (W := 0) (as' := [(.ref mg)]) (S := []) (k' := 35) (n' := 6016) at_201 (hw _ (List.mem_of_getElem? (i := 257) rfl)) (hw _ (List.mem_of_getElem? (i := 258) rfl)) (hw _ (List.mem_of_getElem? (i := 260) rfl)) (hw _ (List.mem_of_getElem? (i := 259) rfl)) (nface (hw _ (List.mem_of_getElem? (i := 260) rfl))) (by decide) own_pd36 rfl E_mg ((own_eqs l Z a0 hw hEL mg _).payS (by simp) (hw _ (List.mem_of_getElem? (i := 261) rfl)) (hw _ (List.mem_of_getElem? (i := 2) rfl)) hEL (by decide) (by decide)) (Nat.le_of_ble_eq_true rfl) rfl rfl (by decide) (by decide) (by decide) (by decide) rfl (fun T h264 v_ ws_ X hgr_ q265 => ?_)
        obtain ⟨rfl, e_, rfl⟩ := q265
        rw [e_] at X
        show Go p e below _ T (mkF m 204 #[.val (.int xa), .val (.int xb), .val (.int ln), .val (.int xf), .val (.ref f0), .val (.ref r0), .val (.int (1 : Int32)), .val (.ref i), .val (.ref r), .val (.ref mg), .val (.ref mg), .unset, .unset, .unset] [(.int (1 : Int32))])
        replace X := X.sub (ws' := []) (by simp)
        refine s_ifT X (pc' := 209) at_204 (show ¬ (1 : Int32) = (0 : Int32) by decide) (by decide) (by decide) ?_
        refine s_aload X (pc' := 211) at_209 rfl rfl rfl ?_
        refine s_virtual X (pc' := 214) (W := 0) (as' := []) (S := []) (k' := 36) (n' := 6017) at_211 (hw _ (List.mem_of_getElem? (i := 262) rfl)) (hw _ (List.mem_of_getElem? (i := 263) rfl)) (hw _ (List.mem_of_getElem? (i := 265) rfl)) (hw _ (List.mem_of_getElem? (i := 264) rfl)) (nface (hw _ (List.mem_of_getElem? (i := 265) rfl))) (by decide) own_pd37 rfl E_r ((own_rf l Z a0 hw hEL r _ E_r N_r F_r_cause E_i hne F_i_file F_r_kind Ik).payS (by simp) (hw _ (List.mem_of_getElem? (i := 266) rfl)) (hw _ (List.mem_of_getElem? (i := 205) rfl)) hEL (by decide) (by decide)) (Nat.le_of_ble_eq_true rfl) rfl rfl (by decide) (by decide) (by decide) (by decide) rfl (fun T h266 v_ ws_ X hgr_ q267 => ?_)
        obtain ⟨o, rfl, E_, E_o, F_o_value, rfl⟩ := q267
        show Go p e below _ T (mkF m 214 #[.val (.int xa), .val (.int xb), .val (.int ln), .val (.int xf), .val (.ref f0), .val (.ref r0), .val (.int (1 : Int32)), .val (.ref i), .val (.ref r), .val (.ref mg), .val (.ref mg), .unset, .unset, .unset] [(.ref o)])
        replace X := X.sub (ws' := []) (by simp)
        replace E_f0 := E_f0.ext E_
        replace E_r0 := E_r0.ext E_
        replace E_i := E_i.ext E_
        replace E_mg := E_mg.ext E_
        replace E_r := E_r.ext E_
        replace F_i_file := F_i_file.ext E_
        replace F_i_line := F_i_line.ext E_
        replace F_i_reason := F_i_reason.ext E_
        replace F_i_detailMessage := F_i_detailMessage.ext E_
        replace F_r_kind := F_r_kind.ext E_
        replace F_r_detailMessage := F_r_detailMessage.ext E_
        replace F_r_cause := F_r_cause.ext E_
        replace N_r := Unt.ext E_ N_r
        refine s_astore X (pc' := 216) (L' := #[.val (.int xa), .val (.int xb), .val (.int ln), .val (.int xf), .val (.ref f0), .val (.ref r0), .val (.int (1 : Int32)), .val (.ref i), .val (.ref r), .val (.ref mg), .val (.ref mg), .val (.ref o), .unset, .unset]) at_214 rfl rfl rfl ?_
        refine s_aload X (pc' := 218) at_216 rfl rfl rfl ?_
        refine s_virtual X (pc' := 221) (W := 0) (as' := []) (S := []) (k' := 36) (n' := 6017) at_218 (hw _ (List.mem_of_getElem? (i := 295) rfl)) (hw _ (List.mem_of_getElem? (i := 296) rfl)) (hw _ (List.mem_of_getElem? (i := 298) rfl)) (hw _ (List.mem_of_getElem? (i := 297) rfl)) (nface (hw _ (List.mem_of_getElem? (i := 298) rfl))) (by decide) own_pd14 rfl E_o ((own_ip l Z a0 hw hEL o _ F_o_value).payS (by simp) (hw _ (List.mem_of_getElem? (i := 299) rfl)) (hw _ (List.mem_of_getElem? (i := 280) rfl)) hEL (by decide) (by decide)) (Nat.le_of_ble_eq_true rfl) rfl rfl (by decide) (by decide) (by decide) (by decide) rfl (fun T h268 v_ ws_ X hgr_ q269 => ?_)
        obtain ⟨rfl, e_, rfl⟩ := q269
        rw [e_] at X
        show Go p e below _ T (mkF m 221 #[.val (.int xa), .val (.int xb), .val (.int ln), .val (.int xf), .val (.ref f0), .val (.ref r0), .val (.int (1 : Int32)), .val (.ref i), .val (.ref r), .val (.ref mg), .val (.ref mg), .val (.ref o), .unset, .unset] [(.int (1 : Int32))])
        replace X := X.sub (ws' := []) (by simp)
        refine s_ifF X (pc' := 224) at_221 (show ¬ (1 : Int32) = (0 : Int32) by decide) rfl ?_
        refine s_aload X (pc' := 226) at_224 rfl rfl rfl ?_
        refine s_virtual X (pc' := 229) (W := 0) (as' := []) (S := []) (k' := 36) (n' := 6017) at_226 (hw _ (List.mem_of_getElem? (i := 300) rfl)) (hw _ (List.mem_of_getElem? (i := 301) rfl)) (hw _ (List.mem_of_getElem? (i := 303) rfl)) (hw _ (List.mem_of_getElem? (i := 302) rfl)) (nface (hw _ (List.mem_of_getElem? (i := 303) rfl))) (by decide) own_pd38 rfl E_o ((own_get l Z a0 hw hEL o _ F_o_value).payS (by simp) (hw _ (List.mem_of_getElem? (i := 304) rfl)) (hw _ (List.mem_of_getElem? (i := 280) rfl)) hEL (by decide) (by decide)) (Nat.le_of_ble_eq_true rfl) rfl rfl (by decide) (by decide) (by decide) (by decide) rfl (fun T h270 v_ ws_ X hgr_ q271 => ?_)
        obtain ⟨rfl, e_, rfl⟩ := q271
        rw [e_] at X
        show Go p e below _ T (mkF m 229 #[.val (.int xa), .val (.int xb), .val (.int ln), .val (.int xf), .val (.ref f0), .val (.ref r0), .val (.int (1 : Int32)), .val (.ref i), .val (.ref r), .val (.ref mg), .val (.ref mg), .val (.ref o), .unset, .unset] [(.ref f0)])
        replace X := X.sub (ws' := []) (by simp)
        refine s_castY X (pc' := 232) at_229 (hw _ (List.mem_of_getElem? (i := 0) rfl)) (Ins.self E_f0) rfl (fun T X => ?_)
        refine s_aload X (pc' := 234) at_232 rfl rfl rfl ?_
        refine s_virtual X (pc' := 237) (W := 0) (as' := [(.ref f0)]) (S := []) (k' := 36) (n' := 6017) at_234 (hw _ (List.mem_of_getElem? (i := 257) rfl)) (hw _ (List.mem_of_getElem? (i := 258) rfl)) (hw _ (List.mem_of_getElem? (i := 260) rfl)) (hw _ (List.mem_of_getElem? (i := 259) rfl)) (nface (hw _ (List.mem_of_getElem? (i := 260) rfl))) (by decide) own_pd36 rfl E_f0 ((own_eqs l Z a0 hw hEL f0 _).payS (by simp) (hw _ (List.mem_of_getElem? (i := 261) rfl)) (hw _ (List.mem_of_getElem? (i := 2) rfl)) hEL (by decide) (by decide)) (Nat.le_of_ble_eq_true rfl) rfl rfl (by decide) (by decide) (by decide) (by decide) rfl (fun T h272 v_ ws_ X hgr_ q273 => ?_)
        obtain ⟨rfl, e_, rfl⟩ := q273
        rw [e_] at X
        show Go p e below _ T (mkF m 237 #[.val (.int xa), .val (.int xb), .val (.int ln), .val (.int xf), .val (.ref f0), .val (.ref r0), .val (.int (1 : Int32)), .val (.ref i), .val (.ref r), .val (.ref mg), .val (.ref mg), .val (.ref o), .unset, .unset] [(.int (1 : Int32))])
        replace X := X.sub (ws' := []) (by simp)
        refine s_ifT X (pc' := 242) at_237 (show ¬ (1 : Int32) = (0 : Int32) by decide) (by decide) (by decide) ?_
        refine s_aload X (pc' := 244) at_242 rfl rfl rfl ?_
        refine s_virtual X (pc' := 247) (W := 0) (as' := []) (S := []) (k' := 36) (n' := 6017) at_244 (hw _ (List.mem_of_getElem? (i := 305) rfl)) (hw _ (List.mem_of_getElem? (i := 306) rfl)) (hw _ (List.mem_of_getElem? (i := 308) rfl)) (hw _ (List.mem_of_getElem? (i := 307) rfl)) (nface (hw _ (List.mem_of_getElem? (i := 308) rfl))) (by decide) own_pd22 rfl E_r ((own_rr l Z a0 hw hEL r _ E_r N_r F_r_cause E_i hne F_i_reason F_r_kind Ik).payS (by simp) (hw _ (List.mem_of_getElem? (i := 309) rfl)) (hw _ (List.mem_of_getElem? (i := 205) rfl)) hEL (by decide) (by decide)) (Nat.le_of_ble_eq_true rfl) rfl rfl (by decide) (by decide) (by decide) (by decide) rfl (fun T h274 v_ ws_ X hgr_ q275 => ?_)
        obtain ⟨rfl, e_, rfl⟩ := q275
        rw [e_] at X
        show Go p e below _ T (mkF m 247 #[.val (.int xa), .val (.int xb), .val (.int ln), .val (.int xf), .val (.ref f0), .val (.ref r0), .val (.int (1 : Int32)), .val (.ref i), .val (.ref r), .val (.ref mg), .val (.ref mg), .val (.ref o), .unset, .unset] [(.ref r0)])
        replace X := X.sub (ws' := []) (by simp)
        refine s_aload X (pc' := 249) at_247 rfl rfl rfl ?_
        refine s_virtual X (pc' := 252) (W := 0) (as' := [(.ref r0)]) (S := []) (k' := 36) (n' := 6017) at_249 (hw _ (List.mem_of_getElem? (i := 257) rfl)) (hw _ (List.mem_of_getElem? (i := 258) rfl)) (hw _ (List.mem_of_getElem? (i := 260) rfl)) (hw _ (List.mem_of_getElem? (i := 259) rfl)) (nface (hw _ (List.mem_of_getElem? (i := 260) rfl))) (by decide) own_pd36 rfl E_r0 ((own_eqs l Z a0 hw hEL r0 _).payS (by simp) (hw _ (List.mem_of_getElem? (i := 261) rfl)) (hw _ (List.mem_of_getElem? (i := 2) rfl)) hEL (by decide) (by decide)) (Nat.le_of_ble_eq_true rfl) rfl rfl (by decide) (by decide) (by decide) (by decide) rfl (fun T h276 v_ ws_ X hgr_ q277 => ?_)
        obtain ⟨rfl, e_, rfl⟩ := q277
        rw [e_] at X
        show Go p e below _ T (mkF m 252 #[.val (.int xa), .val (.int xb), .val (.int ln), .val (.int xf), .val (.ref f0), .val (.ref r0), .val (.int (1 : Int32)), .val (.ref i), .val (.ref r), .val (.ref mg), .val (.ref mg), .val (.ref o), .unset, .unset] [(.int (1 : Int32))])
        replace X := X.sub (ws' := []) (by simp)
        refine s_ifT X (pc' := 257) at_252 (show ¬ (1 : Int32) = (0 : Int32) by decide) (by decide) (by decide) ?_
        refine s_aload X (pc' := 259) at_257 rfl rfl rfl ?_
        refine s_virtual X (pc' := 262) (W := 0) (as' := []) (S := []) (k' := 36) (n' := 6017) at_259 (hw _ (List.mem_of_getElem? (i := 315) rfl)) (hw _ (List.mem_of_getElem? (i := 316) rfl)) (hw _ (List.mem_of_getElem? (i := 318) rfl)) (hw _ (List.mem_of_getElem? (i := 317) rfl)) (nface (hw _ (List.mem_of_getElem? (i := 318) rfl))) (by decide) own_pd23 rfl E_r ((own_rl0 l Z a0 hw hEL r _ E_r N_r F_r_cause E_i hne F_i_line F_r_kind Ik Oo Xo Fo).payS (by simp) (hw _ (List.mem_of_getElem? (i := 319) rfl)) (hw _ (List.mem_of_getElem? (i := 205) rfl)) hEL (by decide) (by decide)) (Nat.le_of_ble_eq_true rfl) rfl rfl (by decide) (by decide) (by decide) (by decide) rfl (fun T h278 v_ ws_ X hgr_ q279 => ?_)
        obtain ⟨rfl, e_, rfl⟩ := q279
        rw [e_] at X
        show Go p e below _ T (mkF m 262 #[.val (.int xa), .val (.int xb), .val (.int ln), .val (.int xf), .val (.ref f0), .val (.ref r0), .val (.int (1 : Int32)), .val (.ref i), .val (.ref r), .val (.ref mg), .val (.ref mg), .val (.ref o), .unset, .unset] [(.ref oe)])
        replace X := X.sub (ws' := []) (by simp)
        have E_oe := Xo.ext X.old
        refine s_astore X (pc' := 264) (L' := #[.val (.int xa), .val (.int xb), .val (.int ln), .val (.int xf), .val (.ref f0), .val (.ref r0), .val (.int (1 : Int32)), .val (.ref i), .val (.ref r), .val (.ref mg), .val (.ref mg), .val (.ref o), .val (.ref oe), .unset]) at_262 rfl rfl rfl ?_
        refine s_iload X (pc' := 266) at_264 rfl rfl ?_
        refine s_ifT X (pc' := 277) at_266 (show ¬ (1 : Int32) = (0 : Int32) by decide) (by decide) (by decide) ?_
        refine s_iconst X (pc' := 278) at_277 (v := (0 : Int32)) rfl rfl ?_
        refine s_istore X (pc' := 280) (L' := #[.val (.int xa), .val (.int xb), .val (.int ln), .val (.int xf), .val (.ref f0), .val (.ref r0), .val (.int (1 : Int32)), .val (.ref i), .val (.ref r), .val (.ref mg), .val (.ref mg), .val (.ref o), .val (.ref oe), .val (.int (0 : Int32))]) at_278 rfl rfl ?_
        refine s_aload X (pc' := 282) at_280 rfl rfl rfl ?_
        refine s_virtual X (pc' := 285) (W := 0) (as' := []) (S := []) (k' := 36) (n' := 6017) at_282 (hw _ (List.mem_of_getElem? (i := 330) rfl)) (hw _ (List.mem_of_getElem? (i := 331) rfl)) (hw _ (List.mem_of_getElem? (i := 333) rfl)) (hw _ (List.mem_of_getElem? (i := 332) rfl)) (nface (hw _ (List.mem_of_getElem? (i := 333) rfl))) (by decide) own_pd14 rfl E_oe ((own_oip0 l Z a0 hw hEL oe _ (Fo.ext X.old)).payS (by simp) (hw _ (List.mem_of_getElem? (i := 334) rfl)) (hw _ (List.mem_of_getElem? (i := 327) rfl)) hEL (by decide) (by decide)) (Nat.le_of_ble_eq_true rfl) rfl rfl (by decide) (by decide) (by decide) (by decide) rfl (fun T h280 v_ ws_ X hgr_ q281 => ?_)
        obtain ⟨rfl, e_, rfl⟩ := q281
        rw [e_] at X
        show Go p e below _ T (mkF m 285 #[.val (.int xa), .val (.int xb), .val (.int ln), .val (.int xf), .val (.ref f0), .val (.ref r0), .val (.int (1 : Int32)), .val (.ref i), .val (.ref r), .val (.ref mg), .val (.ref mg), .val (.ref o), .val (.ref oe), .val (.int (0 : Int32))] [(.int (0 : Int32))])
        replace X := X.sub (ws' := []) (by simp)
        refine s_iload X (pc' := 287) at_285 rfl rfl ?_
        refine s_icmpT X (pc' := 292) at_287 (show (0 : Int32) = (0 : Int32) by decide) (by decide) (by decide) ?_
        refine s_iload X (pc' := 294) at_292 rfl rfl ?_
        refine s_ifT X (pc' := 308) at_294 (show (0 : Int32) = (0 : Int32) by decide) (by decide) (by decide) ?_
        refine s_iconst X (pc' := 309) at_308 (v := (1 : Int32)) rfl rfl ?_
        exact s_iretN X hEL (ws' := []) (t := .boolean) at_309 rfl (by simp) (by decide) (by decide) (fun x q => by simp at q) rfl
set_option maxRecDepth 65536 in
set_option maxHeartbeats 40000000 in
theorem comes_1 {Post' : Tables → Env → Array Value → State → Outcome → State → Prop} (hpost : ∀ tb e args s v u, (limb_1_1.after args s (.returned v) u = true ∧ limb_1_2.after args s (.returned v) u = true ∧ True) → ReturnedEndW s (.returned v) u (Jvm.fieldLocs frame_1_writes args s ++ Jvm.arrayLocs frame_1_arrays args s ++ Jvm.staticLocs frame_1_statics s) 48 14400 → Post' tb e args s (.returned v) u) :
    ArmFor flags0 classFile x code maxLocals ret World_1 tables_1 room_1 Calls_1 rest_1 Pre_1 Post' := by
  intro l hfl _ _ p e ha hc hk s m args below hf hA hF happ hP
  obtain ⟨hcalls, hrest, hpre⟩ := hP
  obtain ⟨-, -, -, hnamed, -, -, -, hat⟩ := (Spec.applies_iff hf).mp happ
  obtain ⟨hg, hnr⟩ := and_e (Cond.before_iff.mp (show (Jvm.Cond.and given_1 narrow_1).before args s = true from hpre))
  obtain ⟨hg0, hg1⟩ := and_e hg
  obtain ⟨ha0, hg2⟩ := and_e hg1
  obtain ⟨ha1, hg3⟩ := and_e hg2
  obtain ⟨ha2, hg4⟩ := and_e hg3
  obtain ⟨w0, w1, w2, w3, rfl⟩ : ∃ w0 w1 w2 w3 : Value, args = #[w0, w1, w2, w3] := by
    have hs : args.size = 4 := by simpa [Cond.value, given_1] using hg0
    obtain ⟨L⟩ := args
    match L, hs with
    | [w0, w1, w2, w3], _ => exact ⟨w0, w1, w2, w3, rfl⟩
  have hw := fun d (hd : d ∈ tables_1) => atoms_spec (ws := Jvm.Cond.code x code maxLocals ret :: tables_1) hat d (List.mem_cons_of_mem _ hd)
  obtain ⟨hsets, hown0⟩ := atoms_of _ (rest_1_c_eq ▸ (show rest_1_c.before _ s = true from hrest))
  have hfit : Fit s := fun {y c} hc i hi => by
    obtain ⟨ha, rfl⟩ := Array.getElem?_eq_some_iff.mp hc
    have q := List.all_eq_true.mp ((Array.all_eq_true_iff_forall_mem.mp hF) _ (Array.getElem_mem ha)) i (List.mem_range.mpr hi)
    simpa [Array.getElem?_eq_getElem hi] using q
  have n5 := not_v (Cond.before_iff.mp (hsets _ (List.mem_of_getElem? (i := 2) rfl)))
  obtain ⟨i0, e0⟩ := is_v ha0
  obtain rfl : w0 = (.int i0) := Option.some.inj e0
  obtain ⟨i1, e1⟩ := is_v ha1
  obtain rfl : w1 = (.int i1) := Option.some.inj e1
  obtain ⟨i2, e2⟩ := is_v ha2
  obtain rfl : w2 = (.int i2) := Option.some.inj e2
  obtain ⟨i3, e3⟩ := is_v hg4
  obtain rfl : w3 = (.int i3) := Option.some.inj e3
  obtain ⟨G1, eG1⟩ := is_v (Cond.before_iff.mp (hsets _ (List.mem_of_getElem? (i := 1) rfl)))
  have O2 : Sta s s.heap "java/lang/String" "COMPACT_STRINGS" "Z" (.int G1) := Sta.start eG1 (Or.inl (hsets _ (List.mem_of_getElem? (i := 0) rfl)))
  have P5 : ¬ (G1 = (0 : Int32)) := gotF (Cond.eq_ints eG1 (Term.int_eval (0))) n5
  have hEL : EW s _ consts_1 := (EW.cons (hw _ (List.mem_of_getElem? (i := 341) rfl)) (by decide) (EW.cons (hw _ (List.mem_of_getElem? (i := 101) rfl)) (by decide) (EW.cons (hw _ (List.mem_of_getElem? (i := 337) rfl)) (by decide) EW.nil)))
  have hCH : CHv s consts_1 s.vm s.heap := CHv.start hEL (fun q hq => hcalls.2.2.1 q hq) (hsets _ (List.mem_of_getElem? (i := 2) rfl)) (hw _ (List.mem_of_getElem? (i := 19) rfl)) (hw _ (List.mem_of_getElem? (i := 1) rfl))
  have hlt : l.stackTraces = true := by
    unfold Launch.stackTraces
    rw [hfl]; decide +kernel
  obtain ⟨us, _, eus, -⟩ := Jvm.Free.AList.arrayOf_ref (hsets _ (List.mem_of_getElem? (i := 17) rfl))
  have Us : Sta s s.heap "java/lang/Throwable" "UNASSIGNED_STACK" "[Ljava/lang/StackTraceElement;" (.ref us) := Sta.start eus (Or.inl (hsets _ (List.mem_of_getElem? (i := 15) rfl)))
  obtain ⟨ss, ess⟩ := exa_v (Cond.before_iff.mp (hsets _ (List.mem_of_getElem? (i := 22) rfl)))
  have Ss : Sta s s.heap "java/lang/Throwable" "SUPPRESSED_SENTINEL" "Ljava/util/List;" (.ref ss) := Sta.start ess (Or.inl (hsets _ (List.mem_of_getElem? (i := 20) rfl)))
  obtain ⟨dO, vO, edO, AO, lO⟩ := dig_at hfit (Cond.before_iff.mp (hsets _ (List.mem_of_getElem? (i := 37) rfl))) (Cond.before_iff.mp (hsets _ (List.mem_of_getElem? (i := 38) rfl))) (hw _ (List.mem_of_getElem? (i := 19) rfl))
  obtain ⟨dT, vT, edT, AT, lT⟩ := dig_at hfit (Cond.before_iff.mp (hsets _ (List.mem_of_getElem? (i := 42) rfl))) (Cond.before_iff.mp (hsets _ (List.mem_of_getElem? (i := 43) rfl))) (hw _ (List.mem_of_getElem? (i := 19) rfl))
  have dg : Digs s dO dT vO vT := ⟨Sta.start edO (Or.inl (hsets _ (List.mem_of_getElem? (i := 36) rfl))), Sta.start edT (Or.inl (hsets _ (List.mem_of_getElem? (i := 41) rfl))), AO, AT, lO, lT⟩
  have xoe := Cond.before_iff.mp (hsets _ (List.mem_of_getElem? (i := 31) rfl))
  obtain ⟨oe, eoe⟩ := exa_v xoe
  have Oo : Sta s s.heap "java/util/OptionalInt" "EMPTY" "Ljava/util/OptionalInt;" (.ref oe) := Sta.start eoe (Or.inl (hsets _ (List.mem_of_getElem? (i := 30) rfl)))
  have Xo : Exa s s.heap oe "java/util/OptionalInt" := Exa.start eoe xoe
  have Fo : Fld s s.heap oe "java/util/OptionalInt" "isPresent" "Z" (.int (0 : Int32)) := Fld.start ((fld_at eoe).symm.trans (Cond.eq_int (hsets _ (List.mem_of_getElem? (i := 32) rfl)) (Term.int_eval (0))))
  obtain ⟨kd, ekd⟩ := exa_v (show (Jvm.Cond.exactly (Term.static "com/example/vestwright/vestwright/run/RunRefusedException$Kind" "INPUT" "Lcom/example/vestwright/vestwright/run/RunRefusedException$Kind;") "com/example/vestwright/vestwright/run/RunRefusedException$Kind").value _ s none s [] = some true from hnr)
  have Ik : Sta s s.heap "com/example/vestwright/vestwright/run/RunRefusedException$Kind" "INPUT" "Lcom/example/vestwright/vestwright/run/RunRefusedException$Kind;" (.ref kd) := Sta.start ekd (Or.inr ⟨(hw _ (List.mem_of_getElem? (i := 210) rfl)), (hw _ (List.mem_of_getElem? (i := 211) rfl))⟩)
  have C := own_law l s _ hw hEL i0 i1 i2 i3 s.heap (O2 := O2) (P5 := P5) (Us := Us) (Ss := Ss) (hlt := hlt) (dg := dg) (Oo := Oo) (Xo := Xo) (Fo := Fo) (Ik := Ik)
  obtain ⟨n, o, h1, h2, h3, v, L, ws', rfl, hv, N, -, -, -, hq⟩ := C tables_1 p e ha hc hk s m _ below hf ((Spec.applies_iff_loose hf).mp happ).1 ⟨rfl, State.Warmed39.refl s, rfl, hCH, (fun q hq => by simp at hq), ext_refl _⟩ (fun _ => own_known hcalls.1 hcalls.2.1 hf)
  obtain rfl : v = some (.int 1) := hv
  exact ⟨n, _, h1, h2, h3, hpost _ _ _ _ _ _ ⟨Cond.after_iff.mpr rfl, Cond.after_iff.mpr (eq_i res_at (Term.int_eval (1)) rfl), trivial⟩ ⟨hq.1, hq.2.1, hq.2.2.1, (hq.2.2.2.sift fun y hy => Or.inr (N y hy)).mono (by decide) (by decide)⟩⟩
theorem main_1_1 : Claimed_1_1 := comes_1 fun _ _ _ _ _ _ h hF => ⟨h.1, hF⟩
theorem main_1_2 : Claimed_1_2 := comes_1 fun _ _ _ _ _ _ h hF => ⟨h.2.1, hF⟩
end Jvm.Pilot.@@N@@
namespace Jvm.Pilot.@@N@@
open Jvm Jvm.ClassFile Sem Op Lib Jvm.Free Jvm.Stand Jvm.Pilot.@@N@@.Jvm.D
/-! MADE BY PROGRAM (witnessworld.py) out of the Statement's table words and the real class files: 49 classes; the members and pool entries that the words name. The judged class is class 1, her method 1. -/
namespace start1
open Jvm.ClassFile
def u (s : String) : CpInfo := .utf8 (stringToUtf16 s)
/-- a pool by its gaps: so many unusable entries, then the entry; so many at the end -/
def gap : Nat → List CpInfo → List CpInfo
  | 0, r => r
  | n + 1, r => .unusable :: gap n r
def poolList (es : List (Nat × CpInfo)) (last : Nat) : List CpInfo := es.foldr (fun e r => gap e.1 (e.2 :: r)) (gap last [])
def pool (es : List (Nat × CpInfo)) (last : Nat) : Array CpInfo := ⟨poolList es last⟩
def fileOf (pool : Array CpInfo) (this : Nat) (attrs : Array Attribute := #[]) (ms : Array MethodInfo := #[]) (fl : Nat := 33) (sup : Nat := 0) (ifs : Array Nat := #[]) (fds : Array FieldInfo := #[]) : ClassFile where
  minorVersion := 0
  majorVersion := 65
  constantPool := pool
  accessFlags := fl
  thisClass := this
  superClass := sup
  interfaces := ifs
  fields := fds
  methods := ms
  attributes := attrs
def plain (name : String) (sup : Option ClassId) : Class where
  name := name
  kind := .ordinary
  loader := none
  accessFlags := 33
  super := sup
  interfaces := #[]
  cf := none
  fields := #[]
  methods := #[]
  instanceTypes := #[]
  staticTypes := #[]
  resolved := #[]
  callSites := []
  init := .initialized
  statics := none
  mirror := none

def pool0 : Array CpInfo := pool [(5, u "<init>"), (0, u "()V"), (1, .class_ 10), (1, u "java/lang/Object"), (85, u "clone"), (0, u "()Ljava/lang/Object;")] 26

def k0c0 : Code := { maxStack := 0, maxLocals := 1, code := object_method_1_code, exceptionTable := #[], attributes := #[] }
def k0m0 : Method := { name := "<init>", desc := "()V", sig := { parameters := [], returnType := none }, accessFlags := 1, code := some k0c0 }
def k0m1 : Method := { name := "clone", desc := "()Ljava/lang/Object;", sig := { parameters := [], returnType := some (.object "java/lang/Object") }, accessFlags := 260, code := none }
/-- java/lang/Object -/
def k0 : Class := { plain "java/lang/Object" none with
  accessFlags := 33
  interfaces := #[]
  cf := some (fileOf pool0 8 #[] #[{ accessFlags := 1, nameIndex := 5, descriptorIndex := 6, attributes := #[] }, { accessFlags := 260, nameIndex := 96, descriptorIndex := 97, attributes := #[] }] 33 0 #[] #[])
  fields := #[]
  methods := #[k0m0, k0m1]
  instanceTypes := #[]
  staticTypes := #[]
  resolved := Array.replicate 124 none
  statics := none }

def pool1 : Array CpInfo := pool [(2, .class_ 4), (1, u "java/lang/Object"), (0, u "<init>"), (0, u "()V"), (0, .string 8), (0, u ""), (0, .class_ 10), (0, u "java/lang/String"), (0, .methodref 9 12), (0, .nameAndType 5 13), (0, u "([C)V"), (0, .class_ 15), (0, u "com/example/vestwright/vestwright/input/InputException"), (0, .methodref 14 17), (0, .nameAndType 5 18), (0, u "(Ljava/lang/String;Ljava/lang/String;)V"), (0, .methodref 14 20), (0, .nameAndType 5 21), (0, u "(Ljava/lang/String;ILjava/lang/String;)V"), (0, .methodref 23 24), (0, .class_ 25), (0, .nameAndType 26 27), (0, u "com/example/vestwright/vestwright/run/RunRefusedException"), (0, u "of"), (0, u "(Lcom/example/vestwright/vestwright/input/InputException;)Lcom/example/vestwright/vestwright/run/RunRefusedException;"), (0, .methodref 23 29), (0, .nameAndType 30 31), (0, u "kind"), (0, u "()Lcom/example/vestwright/vestwright/run/RunRefusedException$Kind;"), (0, .fieldref 33 34), (0, .class_ 35), (0, .nameAndType 36 37), (0, u "com/example/vestwright/vestwright/run/RunRefusedException$Kind"), (0, u "INPUT"), (0, u "Lcom/example/vestwright/vestwright/run/RunRefusedException$Kind;"), (0, .methodref 23 39), (0, .nameAndType 40 41), (0, u "getCause"), (0, u "()Ljava/lang/Throwable;"), (0, .methodref 23 43), (0, .nameAndType 44 45), (0, u "getMessage"), (0, u "()Ljava/lang/String;"), (0, .methodref 14 43), (0, .methodref 9 48), (0, .nameAndType 49 50), (0, u "equals"), (0, u "(Ljava/lang/Object;)Z"), (0, .methodref 23 52), (0, .nameAndType 53 54), (0, u "file"), (0, u "()Ljava/util/Optional;"), (0, .methodref 56 57), (0, .class_ 58), (0, .nameAndType 59 60), (0, u "java/util/Optional"), (0, u "isPresent"), (0, u "()Z"), (0, .methodref 56 62), (0, .nameAndType 63 64), (0, u "get"), (0, u "()Ljava/lang/Object;"), (0, .methodref 23 66), (0, .nameAndType 67 45), (0, u "reason"), (0, .methodref 23 69), (0, .nameAndType 70 71), (0, u "line"), (0, u "()Ljava/util/OptionalInt;"), (0, .methodref 73 57), (0, .class_ 74), (0, u "java/util/OptionalInt"), (0, .methodref 73 76), (0, .nameAndType 77 78), (0, u "getAsInt"), (0, u "()I"), (0, .class_ 80), (0, u "com/example/vestwright/vestwright/run/RunRefusedExceptionOfPinLaw"), (2, u "law"), (0, u "(IIII)Z")] 5

def k1m0 : Method := { name := "<init>", desc := "()V", sig := { parameters := [], returnType := none }, accessFlags := 2, code := none }
def k1c1 : Code := { maxStack := 7, maxLocals := 14, code := code, exceptionTable := #[], attributes := #[] }
def k1m1 : Method := { name := "law", desc := "(IIII)Z", sig := { parameters := [.int, .int, .int, .int], returnType := some .boolean }, accessFlags := 9, code := some k1c1 }
/-- com/example/vestwright/vestwright/run/RunRefusedExceptionOfPinLaw -/
def k1 : Class := { plain "com/example/vestwright/vestwright/run/RunRefusedExceptionOfPinLaw" (some 0) with
  accessFlags := 49
  interfaces := #[]
  cf := some (fileOf pool1 79 #[] #[{ accessFlags := 2, nameIndex := 5, descriptorIndex := 6, attributes := #[] }, { accessFlags := 9, nameIndex := 83, descriptorIndex := 84, attributes := #[] }] 49 2 #[] #[])
  fields := #[]
  methods := #[k1m0, k1m1]
  instanceTypes := #[]
  staticTypes := #[]
  resolved := Array.replicate 90 none
  statics := none }

def pool2 : Array CpInfo := pool [(1, .class_ 2), (0, u "java/io/Serializable"), (0, .class_ 4), (0, u "java/lang/Object")] 2

/-- java/io/Serializable -/
def k2 : Class := { plain "java/io/Serializable" (some 0) with
  accessFlags := 1537
  interfaces := #[]
  cf := some (fileOf pool2 1 #[] #[] 1537 3 #[] #[])
  fields := #[]
  methods := #[]
  instanceTypes := #[]
  staticTypes := #[]
  resolved := Array.replicate 7 none
  statics := none }

def pool3 : Array CpInfo := pool [(1, .class_ 2), (0, u "java/lang/Comparable"), (0, .class_ 4), (0, u "java/lang/Object")] 7

/-- java/lang/Comparable -/
def k3 : Class := { plain "java/lang/Comparable" (some 0) with
  accessFlags := 1537
  interfaces := #[]
  cf := some (fileOf pool3 1 #[] #[] 1537 3 #[] #[])
  fields := #[]
  methods := #[]
  instanceTypes := #[]
  staticTypes := #[]
  resolved := Array.replicate 12 none
  statics := none }

def pool4 : Array CpInfo := pool [(2, .class_ 4), (1, u "java/lang/CharSequence"), (42, .class_ 48), (0, u "java/lang/CharSequence$1CodePointIterator"), (10, .class_ 60), (0, u "java/lang/CharSequence$1CharIterator"), (5, .class_ 67), (0, u "java/lang/Object")] 63

/-- java/lang/CharSequence -/
def k4 : Class := { plain "java/lang/CharSequence" (some 0) with
  accessFlags := 1537
  interfaces := #[]
  cf := some (fileOf pool4 2 #[.nestMembers #[47, 59]] #[] 1537 66 #[] #[])
  fields := #[]
  methods := #[]
  instanceTypes := #[]
  staticTypes := #[]
  resolved := Array.replicate 131 none
  statics := none }

def pool5 : Array CpInfo := pool [(1, .class_ 2), (0, u "java/lang/constant/Constable"), (0, .class_ 4), (0, u "java/lang/Object")] 6

/-- java/lang/constant/Constable -/
def k5 : Class := { plain "java/lang/constant/Constable" (some 0) with
  accessFlags := 1537
  interfaces := #[]
  cf := some (fileOf pool5 1 #[] #[] 1537 3 #[] #[])
  fields := #[]
  methods := #[]
  instanceTypes := #[]
  staticTypes := #[]
  resolved := Array.replicate 11 none
  statics := none }

def pool6 : Array CpInfo := pool [(1, .class_ 2), (0, u "java/lang/constant/ConstantDesc"), (0, .class_ 4), (0, u "java/lang/Object")] 32

/-- java/lang/constant/ConstantDesc -/
def k6 : Class := { plain "java/lang/constant/ConstantDesc" (some 0) with
  accessFlags := 1537
  interfaces := #[]
  cf := some (fileOf pool6 1 #[] #[] 1537 3 #[] #[])
  fields := #[]
  methods := #[]
  instanceTypes := #[]
  staticTypes := #[]
  resolved := Array.replicate 37 none
  statics := none }

def pool7 : Array CpInfo := pool [(1, .methodref 2 3), (0, .class_ 4), (0, .nameAndType 5 6), (0, u "java/lang/Object"), (0, u "<init>"), (0, u "()V"), (2, .fieldref 10 11), (0, .class_ 12), (0, .nameAndType 13 14), (0, u "java/lang/String"), (0, u "value"), (0, u "[B"), (0, .fieldref 10 16), (0, .nameAndType 17 18), (0, u "coder"), (0, u "B"), (2, u "hash"), (0, u "I"), (2, u "hashIsZero"), (0, u "Z"), (0, .methodref 10 28), (0, .nameAndType 5 29), (0, u "([CIILjava/lang/Void;)V"), (8, .fieldref 10 39), (0, .nameAndType 40 26), (0, u "COMPACT_STRINGS"), (1, .class_ 44), (1, u "java/lang/StringUTF16"), (0, u "compress"), (1, .methodref 42 48), (0, .nameAndType 49 50), (0, u "coderFromArrayLen"), (0, u "([BI)B"), (3, .methodref 55 56), (0, .class_ 57), (0, .nameAndType 58 59), (0, u "java/util/Arrays"), (0, u "copyOfRange"), (0, u "([BII)[B"), (82, u "()Z"), (34, .methodref 42 178), (0, .nameAndType 45 179), (0, u "([CII)[B"), (13, .class_ 195), (1, u "java/lang/System"), (16, .methodref 193 213), (0, .nameAndType 214 215), (0, u "arraycopy"), (0, u "(Ljava/lang/Object;ILjava/lang/Object;II)V"), (118, u "()I"), (0, .methodref 10 336), (0, .nameAndType 17 337), (0, u "()B"), (2, u "()[B"), (148, .methodref 10 490), (0, .nameAndType 5 491), (0, u "(Ljava/lang/AbstractStringBuilder;Ljava/lang/Void;)V"), (1, .nameAndType 494 142), (0, u "isLatin1"), (11, .nameAndType 507 334), (0, u "length"), (24, u "getBytes"), (10, u "equals"), (5, .methodref 550 506), (0, .class_ 551), (0, u "java/lang/AbstractStringBuilder"), (0, .methodref 550 553), (0, .nameAndType 554 340), (0, u "getValue"), (18, u "(Ljava/lang/Object;)Z"), (1, .class_ 576), (0, u "java/lang/CharSequence"), (22, u "CASE_INSENSITIVE_ORDER"), (0, u "Ljava/util/Comparator;"), (220, u "([BIB)V"), (188, u "([C)V"), (36, .methodref 550 493), (53, u "serialPersistentFields"), (0, u "[Ljava/io/ObjectStreamField;"), (0, .class_ 1104), (0, u "java/lang/String$CaseInsensitiveComparator"), (1, .class_ 1107), (0, u "java/io/Serializable"), (0, .class_ 1109), (0, u "java/lang/Comparable"), (0, .class_ 1111), (0, u "java/lang/constant/Constable"), (0, .class_ 1113), (0, u "java/lang/constant/ConstantDesc"), (2, u "serialVersionUID"), (0, u "J"), (3, u "REPL"), (0, u "C"), (2, u "LATIN1"), (1, u "UTF16"), (105, u "(Ljava/lang/StringBuilder;)V")] 217

def k7m0 : Method := { name := "<init>", desc := "()V", sig := { parameters := [], returnType := none }, accessFlags := 1, code := none }
def k7c1 : Code := { maxStack := 5, maxLocals := 2, code := jdk_42_method_3_code, exceptionTable := #[], attributes := #[] }
def k7m1 : Method := { name := "<init>", desc := "([C)V", sig := { parameters := [(.array .char)], returnType := none }, accessFlags := 1, code := some k7c1 }
def k7c2 : Code := { maxStack := 3, maxLocals := 2, code := jdk_42_method_53_code, exceptionTable := #[], attributes := #[] }
def k7m2 : Method := { name := "<init>", desc := "(Ljava/lang/StringBuilder;)V", sig := { parameters := [(.object "java/lang/StringBuilder")], returnType := none }, accessFlags := 1, code := some k7c2 }
def k7c3 : Code := { maxStack := 2, maxLocals := 1, code := jdk_42_method_54_code, exceptionTable := #[], attributes := #[] }
def k7m3 : Method := { name := "length", desc := "()I", sig := { parameters := [], returnType := some .int }, accessFlags := 1, code := some k7c3 }
def k7c4 : Code := { maxStack := 2, maxLocals := 3, code := jdk_42_method_66_code, exceptionTable := #[], attributes := #[] }
def k7m4 : Method := { name := "equals", desc := "(Ljava/lang/Object;)Z", sig := { parameters := [(.object "java/lang/Object")], returnType := some .boolean }, accessFlags := 1, code := some k7c4 }
def k7c5 : Code := { maxStack := 5, maxLocals := 4, code := jdk_42_method_147_code, exceptionTable := #[], attributes := #[] }
def k7m5 : Method := { name := "getBytes", desc := "([BIB)V", sig := { parameters := [(.array .byte), .int, .byte], returnType := none }, accessFlags := 0, code := some k7c5 }
def k7c6 : Code := { maxStack := 4, maxLocals := 6, code := jdk_42_method_149_code, exceptionTable := #[], attributes := #[] }
def k7m6 : Method := { name := "<init>", desc := "([CIILjava/lang/Void;)V", sig := { parameters := [(.array .char), .int, .int, (.object "java/lang/Void")], returnType := none }, accessFlags := 2, code := some k7c6 }
def k7c7 : Code := { maxStack := 5, maxLocals := 5, code := jdk_42_method_150_code, exceptionTable := #[], attributes := #[] }
def k7m7 : Method := { name := "<init>", desc := "(Ljava/lang/AbstractStringBuilder;Ljava/lang/Void;)V", sig := { parameters := [(.object "java/lang/AbstractStringBuilder"), (.object "java/lang/Void")], returnType := none }, accessFlags := 0, code := some k7c7 }
def k7c8 : Code := { maxStack := 1, maxLocals := 1, code := jdk_42_method_152_code, exceptionTable := #[], attributes := #[] }
def k7m8 : Method := { name := "coder", desc := "()B", sig := { parameters := [], returnType := some .byte }, accessFlags := 0, code := some k7c8 }
/-- java/lang/String -/
def k7 : Class := { plain "java/lang/String" (some 0) with
  accessFlags := 49
  interfaces := #[2, 3, 4, 5, 6]
  cf := some (fileOf pool7 10 #[.nestMembers #[1103]] #[{ accessFlags := 1, nameIndex := 5, descriptorIndex := 6, attributes := #[] }, { accessFlags := 1, nameIndex := 5, descriptorIndex := 1010, attributes := #[] }, { accessFlags := 1, nameIndex := 5, descriptorIndex := 1233, attributes := #[] }, { accessFlags := 1, nameIndex := 507, descriptorIndex := 334, attributes := #[] }, { accessFlags := 1, nameIndex := 543, descriptorIndex := 573, attributes := #[] }, { accessFlags := 0, nameIndex := 532, descriptorIndex := 821, attributes := #[] }, { accessFlags := 2, nameIndex := 5, descriptorIndex := 29, attributes := #[] }, { accessFlags := 0, nameIndex := 5, descriptorIndex := 491, attributes := #[] }, { accessFlags := 0, nameIndex := 17, descriptorIndex := 337, attributes := #[] }] 49 2 #[1106, 1108, 575, 1110, 1112] #[{ accessFlags := 18, nameIndex := 13, descriptorIndex := 14, attributes := #[] }, { accessFlags := 18, nameIndex := 17, descriptorIndex := 18, attributes := #[] }, { accessFlags := 2, nameIndex := 21, descriptorIndex := 22, attributes := #[] }, { accessFlags := 2, nameIndex := 25, descriptorIndex := 26, attributes := #[] }, { accessFlags := 26, nameIndex := 1116, descriptorIndex := 1117, attributes := #[] }, { accessFlags := 24, nameIndex := 40, descriptorIndex := 26, attributes := #[] }, { accessFlags := 26, nameIndex := 1101, descriptorIndex := 1102, attributes := #[] }, { accessFlags := 26, nameIndex := 1121, descriptorIndex := 1122, attributes := #[] }, { accessFlags := 25, nameIndex := 599, descriptorIndex := 600, attributes := #[] }, { accessFlags := 24, nameIndex := 1125, descriptorIndex := 18, attributes := #[] }, { accessFlags := 24, nameIndex := 1127, descriptorIndex := 18, attributes := #[] }])
  fields := #[{ name := "value", type := (.array .byte), accessFlags := 18, slot := 0, constantValue := 0 }, { name := "coder", type := .byte, accessFlags := 18, slot := 1, constantValue := 0 }, { name := "hash", type := .int, accessFlags := 2, slot := 2, constantValue := 0 }, { name := "hashIsZero", type := .boolean, accessFlags := 2, slot := 3, constantValue := 0 }, { name := "serialVersionUID", type := .long, accessFlags := 26, slot := 0, constantValue := 0 }, { name := "COMPACT_STRINGS", type := .boolean, accessFlags := 24, slot := 1, constantValue := 0 }, { name := "serialPersistentFields", type := (.array (.object "java/io/ObjectStreamField")), accessFlags := 26, slot := 2, constantValue := 0 }, { name := "REPL", type := .char, accessFlags := 26, slot := 3, constantValue := 0 }, { name := "CASE_INSENSITIVE_ORDER", type := (.object "java/util/Comparator"), accessFlags := 25, slot := 4, constantValue := 0 }, { name := "LATIN1", type := .byte, accessFlags := 24, slot := 5, constantValue := 0 }, { name := "UTF16", type := .byte, accessFlags := 24, slot := 6, constantValue := 0 }]
  methods := #[k7m0, k7m1, k7m2, k7m3, k7m4, k7m5, k7m6, k7m7, k7m8]
  instanceTypes := #[(.array .byte), .byte, .int, .boolean]
  staticTypes := #[.long, .boolean, (.array (.object "java/io/ObjectStreamField")), .char, (.object "java/util/Comparator"), .byte, .byte]
  resolved := Array.replicate 1451 none
  statics := some 0 }

def pool8 : Array CpInfo := pool [(6, .class_ 8), (1, u "java/lang/Object"), (0, u "<init>"), (0, u "()V"), (1, .class_ 14), (1, u "java/lang/StringUTF16"), (31, u "$assertionsDisabled"), (0, u "Z"), (13, u "HI_BYTE_SHIFT"), (0, u "I"), (2, u "LO_BYTE_SHIFT"), (49, .methodref 12 116), (0, .nameAndType 117 118), (0, u "compress"), (0, u "([CI[BII)I"), (3, u "([CII)[B"), (138, u "coderFromArrayLen"), (0, u "([BI)B"), (106, .class_ 371), (1, u "java/lang/StringUTF16$LinesSpliterator"), (58, u "MAX_LENGTH"), (196, .class_ 628), (0, u "java/lang/StringUTF16$CodePointsSpliterator"), (0, .class_ 630), (0, u "java/lang/StringUTF16$CharsSpliterator")] 4

def k8m0 : Method := { name := "<init>", desc := "()V", sig := { parameters := [], returnType := none }, accessFlags := 0, code := none }
def k8c1 : Code := { maxStack := 2, maxLocals := 2, code := jdk_52_method_15_code, exceptionTable := #[], attributes := #[] }
def k8m1 : Method := { name := "coderFromArrayLen", desc := "([BI)B", sig := { parameters := [(.array .byte), .int], returnType := some .byte }, accessFlags := 8, code := some k8c1 }
def k8c2 : Code := { maxStack := 5, maxLocals := 6, code := jdk_52_method_16_code, exceptionTable := #[], attributes := #[] }
def k8m2 : Method := { name := "compress", desc := "([CII)[B", sig := { parameters := [(.array .char), .int, .int], returnType := some (.array .byte) }, accessFlags := 9, code := some k8c2 }
def k8c3 : Code := { maxStack := 3, maxLocals := 7, code := jdk_52_method_21_code, exceptionTable := #[], attributes := #[] }
def k8m3 : Method := { name := "compress", desc := "([CI[BII)I", sig := { parameters := [(.array .char), .int, (.array .byte), .int, .int], returnType := some .int }, accessFlags := 9, code := some k8c3 }
/-- java/lang/StringUTF16 -/
def k8 : Class := { plain "java/lang/StringUTF16" (some 0) with
  accessFlags := 48
  interfaces := #[]
  cf := some (fileOf pool8 12 #[.nestMembers #[627, 629, 369]] #[{ accessFlags := 0, nameIndex := 9, descriptorIndex := 10, attributes := #[] }, { accessFlags := 8, nameIndex := 261, descriptorIndex := 262, attributes := #[] }, { accessFlags := 9, nameIndex := 117, descriptorIndex := 122, attributes := #[] }, { accessFlags := 9, nameIndex := 117, descriptorIndex := 118, attributes := #[] }] 48 6 #[] #[{ accessFlags := 26, nameIndex := 61, descriptorIndex := 62, attributes := #[] }, { accessFlags := 26, nameIndex := 65, descriptorIndex := 62, attributes := #[] }, { accessFlags := 24, nameIndex := 430, descriptorIndex := 62, attributes := #[] }, { accessFlags := 4120, nameIndex := 46, descriptorIndex := 47, attributes := #[] }])
  fields := #[{ name := "HI_BYTE_SHIFT", type := .int, accessFlags := 26, slot := 0, constantValue := 0 }, { name := "LO_BYTE_SHIFT", type := .int, accessFlags := 26, slot := 1, constantValue := 0 }, { name := "MAX_LENGTH", type := .int, accessFlags := 24, slot := 2, constantValue := 0 }, { name := "$assertionsDisabled", type := .boolean, accessFlags := 4120, slot := 3, constantValue := 0 }]
  methods := #[k8m0, k8m1, k8m2, k8m3]
  instanceTypes := #[]
  staticTypes := #[.int, .int, .int, .boolean]
  resolved := Array.replicate 635 none
  statics := none }

def pool9 : Array CpInfo := pool [(1, .methodref 2 3), (0, .class_ 4), (0, .nameAndType 5 6), (0, u "java/lang/Object"), (0, u "<init>"), (0, u "()V"), (0, .fieldref 8 9), (0, .class_ 10), (0, .nameAndType 11 12), (0, u "java/lang/Throwable"), (0, u "cause"), (0, u "Ljava/lang/Throwable;"), (0, .fieldref 8 14), (0, .nameAndType 15 16), (0, u "UNASSIGNED_STACK"), (0, u "[Ljava/lang/StackTraceElement;"), (0, .fieldref 8 18), (0, .nameAndType 19 16), (0, u "stackTrace"), (0, .fieldref 8 21), (0, .nameAndType 22 23), (0, u "SUPPRESSED_SENTINEL"), (0, u "Ljava/util/List;"), (0, .fieldref 8 25), (0, .nameAndType 26 23), (0, u "suppressedExceptions"), (0, .methodref 8 28), (0, .nameAndType 29 30), (0, u "fillInStackTrace"), (0, u "()Ljava/lang/Throwable;"), (0, .fieldref 8 32), (0, .nameAndType 33 34), (0, u "detailMessage"), (0, u "Ljava/lang/String;"), (3, u "()Ljava/lang/String;"), (2, u "getMessage"), (21, u "(Ljava/lang/String;Ljava/lang/Throwable;)V"), (29, .class_ 94), (0, u "java/lang/Throwable$WrappedPrintStream"), (6, .class_ 103), (1, u "java/lang/Throwable$PrintStreamOrWriter"), (54, u "getCause"), (6, u "$assertionsDisabled"), (0, u "Z"), (26, .class_ 194), (0, u "java/lang/Throwable$WrappedPrintWriter"), (3, .fieldref 8 199), (0, .nameAndType 200 201), (0, u "backtrace"), (0, u "Ljava/lang/Object;"), (0, .methodref 8 203), (0, .nameAndType 29 204), (0, u "(I)Ljava/lang/Throwable;"), (6, u "depth"), (0, u "I"), (10, u "(Ljava/lang/String;)V"), (45, .class_ 271), (1, u "java/lang/Throwable$SentinelHolder"), (32, u "EMPTY_THROWABLE_ARRAY"), (0, u "[Ljava/lang/Throwable;"), (12, .class_ 319), (0, u "java/io/Serializable"), (0, u "serialVersionUID"), (0, u "J"), (5, u "NULL_CAUSE_MESSAGE"), (0, u "SELF_SUPPRESSION_MESSAGE"), (0, u "CAUSE_CAPTION"), (0, u "SUPPRESSED_CAPTION")] 73

def k9c0 : Code := { maxStack := 2, maxLocals := 1, code := jdk_78_method_1_code, exceptionTable := #[], attributes := #[] }
def k9m0 : Method := { name := "<init>", desc := "()V", sig := { parameters := [], returnType := none }, accessFlags := 1, code := some k9c0 }
def k9c1 : Code := { maxStack := 2, maxLocals := 2, code := jdk_78_method_2_code, exceptionTable := #[], attributes := #[] }
def k9m1 : Method := { name := "<init>", desc := "(Ljava/lang/String;)V", sig := { parameters := [(.object "java/lang/String")], returnType := none }, accessFlags := 1, code := some k9c1 }
def k9c2 : Code := { maxStack := 2, maxLocals := 3, code := jdk_78_method_3_code, exceptionTable := #[], attributes := #[] }
def k9m2 : Method := { name := "<init>", desc := "(Ljava/lang/String;Ljava/lang/Throwable;)V", sig := { parameters := [(.object "java/lang/String"), (.object "java/lang/Throwable")], returnType := none }, accessFlags := 1, code := some k9c2 }
def k9c3 : Code := { maxStack := 1, maxLocals := 1, code := jdk_78_method_6_code, exceptionTable := #[], attributes := #[] }
def k9m3 : Method := { name := "getMessage", desc := "()Ljava/lang/String;", sig := { parameters := [], returnType := some (.object "java/lang/String") }, accessFlags := 1, code := some k9c3 }
def k9c4 : Code := { maxStack := 2, maxLocals := 1, code := ⟨#[0x2a, 0xb4, 0x00, 0x07, 0x2a, 0xa6, 0x00, 0x07, 0x01, 0xa7, 0x00, 0x07, 0x2a, 0xb4, 0x00, 0x07, 0xb0]⟩, exceptionTable := #[], attributes := #[] }
def k9m4 : Method := { name := "getCause", desc := "()Ljava/lang/Throwable;", sig := { parameters := [], returnType := some (.object "java/lang/Throwable") }, accessFlags := 33, code := some k9c4 }
def k9c5 : Code := { maxStack := 2, maxLocals := 1, code := ⟨#[0x2a, 0xb4, 0x00, 0x11, 0xc7, 0x00, 0x0a, 0x2a, 0xb4, 0x00, 0xc6, 0xc6, 0x00, 0x10, 0x2a, 0x03, 0xb6, 0x00, 0xca, 0x57, 0x2a, 0xb2, 0x00, 0x0d, 0xb5, 0x00, 0x11, 0x2a, 0xb0]⟩, exceptionTable := #[], attributes := #[] }
def k9m5 : Method := { name := "fillInStackTrace", desc := "()Ljava/lang/Throwable;", sig := { parameters := [], returnType := some (.object "java/lang/Throwable") }, accessFlags := 33, code := some k9c5 }
def k9m6 : Method := { name := "fillInStackTrace", desc := "(I)Ljava/lang/Throwable;", sig := { parameters := [.int], returnType := some (.object "java/lang/Throwable") }, accessFlags := 258, code := none }
/-- java/lang/Throwable -/
def k9 : Class := { plain "java/lang/Throwable" (some 0) with
  accessFlags := 33
  interfaces := #[2]
  cf := some (fileOf pool9 8 #[.nestMembers #[193, 93, 101, 269]] #[{ accessFlags := 1, nameIndex := 5, descriptorIndex := 6, attributes := #[] }, { accessFlags := 1, nameIndex := 5, descriptorIndex := 223, attributes := #[] }, { accessFlags := 1, nameIndex := 5, descriptorIndex := 63, attributes := #[] }, { accessFlags := 1, nameIndex := 41, descriptorIndex := 38, attributes := #[] }, { accessFlags := 33, nameIndex := 158, descriptorIndex := 30, attributes := #[] }, { accessFlags := 33, nameIndex := 29, descriptorIndex := 30, attributes := #[] }, { accessFlags := 258, nameIndex := 29, descriptorIndex := 204, attributes := #[] }] 33 2 #[318] #[{ accessFlags := 26, nameIndex := 320, descriptorIndex := 321, attributes := #[] }, { accessFlags := 130, nameIndex := 200, descriptorIndex := 201, attributes := #[] }, { accessFlags := 2, nameIndex := 33, descriptorIndex := 34, attributes := #[] }, { accessFlags := 26, nameIndex := 15, descriptorIndex := 16, attributes := #[] }, { accessFlags := 2, nameIndex := 11, descriptorIndex := 12, attributes := #[] }, { accessFlags := 2, nameIndex := 19, descriptorIndex := 16, attributes := #[] }, { accessFlags := 130, nameIndex := 211, descriptorIndex := 212, attributes := #[] }, { accessFlags := 26, nameIndex := 22, descriptorIndex := 23, attributes := #[] }, { accessFlags := 2, nameIndex := 26, descriptorIndex := 23, attributes := #[] }, { accessFlags := 26, nameIndex := 327, descriptorIndex := 34, attributes := #[] }, { accessFlags := 26, nameIndex := 328, descriptorIndex := 34, attributes := #[] }, { accessFlags := 26, nameIndex := 329, descriptorIndex := 34, attributes := #[] }, { accessFlags := 26, nameIndex := 330, descriptorIndex := 34, attributes := #[] }, { accessFlags := 26, nameIndex := 304, descriptorIndex := 305, attributes := #[] }, { accessFlags := 4120, nameIndex := 165, descriptorIndex := 166, attributes := #[] }])
  fields := #[{ name := "serialVersionUID", type := .long, accessFlags := 26, slot := 0, constantValue := 0 }, { name := "backtrace", type := (.object "java/lang/Object"), accessFlags := 130, slot := 0, constantValue := 0 }, { name := "detailMessage", type := (.object "java/lang/String"), accessFlags := 2, slot := 1, constantValue := 0 }, { name := "UNASSIGNED_STACK", type := (.array (.object "java/lang/StackTraceElement")), accessFlags := 26, slot := 1, constantValue := 0 }, { name := "cause", type := (.object "java/lang/Throwable"), accessFlags := 2, slot := 2, constantValue := 0 }, { name := "stackTrace", type := (.array (.object "java/lang/StackTraceElement")), accessFlags := 2, slot := 3, constantValue := 0 }, { name := "depth", type := .int, accessFlags := 130, slot := 4, constantValue := 0 }, { name := "SUPPRESSED_SENTINEL", type := (.object "java/util/List"), accessFlags := 26, slot := 2, constantValue := 0 }, { name := "suppressedExceptions", type := (.object "java/util/List"), accessFlags := 2, slot := 5, constantValue := 0 }, { name := "NULL_CAUSE_MESSAGE", type := (.object "java/lang/String"), accessFlags := 26, slot := 3, constantValue := 0 }, { name := "SELF_SUPPRESSION_MESSAGE", type := (.object "java/lang/String"), accessFlags := 26, slot := 4, constantValue := 0 }, { name := "CAUSE_CAPTION", type := (.object "java/lang/String"), accessFlags := 26, slot := 5, constantValue := 0 }, { name := "SUPPRESSED_CAPTION", type := (.object "java/lang/String"), accessFlags := 26, slot := 6, constantValue := 0 }, { name := "EMPTY_THROWABLE_ARRAY", type := (.array (.object "java/lang/Throwable")), accessFlags := 26, slot := 7, constantValue := 0 }, { name := "$assertionsDisabled", type := .boolean, accessFlags := 4120, slot := 8, constantValue := 0 }]
  methods := #[k9m0, k9m1, k9m2, k9m3, k9m4, k9m5, k9m6]
  instanceTypes := #[(.object "java/lang/Object"), (.object "java/lang/String"), (.object "java/lang/Throwable"), (.array (.object "java/lang/StackTraceElement")), .int, (.object "java/util/List")]
  staticTypes := #[.long, (.array (.object "java/lang/StackTraceElement")), (.object "java/util/List"), (.object "java/lang/String"), (.object "java/lang/String"), (.object "java/lang/String"), (.object "java/lang/String"), (.array (.object "java/lang/Throwable")), .boolean]
  resolved := Array.replicate 404 none
  statics := some 1 }

def pool10 : Array CpInfo := pool [(2, .class_ 4), (1, u "java/lang/Throwable"), (0, u "<init>"), (0, u "()V"), (0, .methodref 2 8), (0, .nameAndType 5 9), (0, u "(Ljava/lang/String;)V"), (0, .methodref 2 11), (0, .nameAndType 5 12), (0, u "(Ljava/lang/String;Ljava/lang/Throwable;)V"), (6, .class_ 20), (0, u "java/lang/Exception"), (0, u "serialVersionUID"), (0, u "J")] 17

def k10m0 : Method := { name := "<init>", desc := "()V", sig := { parameters := [], returnType := none }, accessFlags := 1, code := none }
def k10c1 : Code := { maxStack := 2, maxLocals := 2, code := jdk_59_method_2_code, exceptionTable := #[], attributes := #[] }
def k10m1 : Method := { name := "<init>", desc := "(Ljava/lang/String;)V", sig := { parameters := [(.object "java/lang/String")], returnType := none }, accessFlags := 1, code := some k10c1 }
def k10c2 : Code := { maxStack := 3, maxLocals := 3, code := jdk_59_method_3_code, exceptionTable := #[], attributes := #[] }
def k10m2 : Method := { name := "<init>", desc := "(Ljava/lang/String;Ljava/lang/Throwable;)V", sig := { parameters := [(.object "java/lang/String"), (.object "java/lang/Throwable")], returnType := none }, accessFlags := 1, code := some k10c2 }
/-- java/lang/Exception -/
def k10 : Class := { plain "java/lang/Exception" (some 9) with
  accessFlags := 33
  interfaces := #[]
  cf := some (fileOf pool10 19 #[] #[{ accessFlags := 1, nameIndex := 5, descriptorIndex := 6, attributes := #[] }, { accessFlags := 1, nameIndex := 5, descriptorIndex := 9, attributes := #[] }, { accessFlags := 1, nameIndex := 5, descriptorIndex := 12, attributes := #[] }] 33 2 #[] #[{ accessFlags := 24, nameIndex := 21, descriptorIndex := 22, attributes := #[] }])
  fields := #[{ name := "serialVersionUID", type := .long, accessFlags := 24, slot := 0, constantValue := 0 }]
  methods := #[k10m0, k10m1, k10m2]
  instanceTypes := #[(.object "java/lang/Object"), (.object "java/lang/String"), (.object "java/lang/Throwable"), (.array (.object "java/lang/StackTraceElement")), .int, (.object "java/util/List")]
  staticTypes := #[.long]
  resolved := Array.replicate 40 none
  statics := none }

def pool11 : Array CpInfo := pool [(1, .class_ 2), (0, u "java/lang/StringBuilder"), (0, .methodref 1 4), (0, .nameAndType 5 6), (0, u "<init>"), (0, u "()V"), (0, .methodref 1 8), (0, .nameAndType 9 10), (0, u "append"), (0, u "(Ljava/lang/String;)Ljava/lang/StringBuilder;"), (0, .string 12), (0, u ":"), (0, .methodref 1 14), (0, .nameAndType 9 15), (0, u "(I)Ljava/lang/StringBuilder;"), (0, .string 17), (0, u ": "), (0, .methodref 1 19), (0, .nameAndType 20 21), (0, u "toString"), (0, u "()Ljava/lang/String;"), (0, .methodref 23 24), (0, .class_ 25), (0, .nameAndType 5 26), (0, u "java/lang/Exception"), (0, u "(Ljava/lang/String;)V"), (0, .fieldref 28 29), (0, .class_ 30), (0, .nameAndType 31 32), (0, u "com/example/vestwright/vestwright/input/InputException"), (0, u "file"), (0, u "Ljava/lang/String;"), (0, .fieldref 28 34), (0, .nameAndType 35 36), (0, u "line"), (0, u "I"), (0, .fieldref 28 38), (0, .nameAndType 39 32), (0, u "reason"), (0, .methodref 41 42), (0, .class_ 43), (0, .nameAndType 44 45), (0, u "java/util/OptionalInt"), (0, u "empty"), (0, u "()Ljava/util/OptionalInt;"), (0, .methodref 41 47), (0, .nameAndType 48 49), (0, u "of"), (0, u "(I)Ljava/util/OptionalInt;"), (0, u "serialVersionUID"), (0, u "J"), (3, u "(Ljava/lang/String;ILjava/lang/String;)V"), (2, u "(Ljava/lang/String;Ljava/lang/String;)V")] 3

def k11c0 : Code := { maxStack := 3, maxLocals := 4, code := prog_18_method_1_code, exceptionTable := #[], attributes := #[] }
def k11m0 : Method := { name := "<init>", desc := "(Ljava/lang/String;ILjava/lang/String;)V", sig := { parameters := [(.object "java/lang/String"), .int, (.object "java/lang/String")], returnType := none }, accessFlags := 1, code := some k11c0 }
def k11c1 : Code := { maxStack := 3, maxLocals := 3, code := prog_18_method_2_code, exceptionTable := #[], attributes := #[] }
def k11m1 : Method := { name := "<init>", desc := "(Ljava/lang/String;Ljava/lang/String;)V", sig := { parameters := [(.object "java/lang/String"), (.object "java/lang/String")], returnType := none }, accessFlags := 1, code := some k11c1 }
def k11c2 : Code := { maxStack := 1, maxLocals := 1, code := prog_18_method_3_code, exceptionTable := #[], attributes := #[] }
def k11m2 : Method := { name := "file", desc := "()Ljava/lang/String;", sig := { parameters := [], returnType := some (.object "java/lang/String") }, accessFlags := 1, code := some k11c2 }
def k11c3 : Code := { maxStack := 1, maxLocals := 1, code := prog_18_method_4_code, exceptionTable := #[], attributes := #[] }
def k11m3 : Method := { name := "line", desc := "()Ljava/util/OptionalInt;", sig := { parameters := [], returnType := some (.object "java/util/OptionalInt") }, accessFlags := 1, code := some k11c3 }
def k11c4 : Code := { maxStack := 1, maxLocals := 1, code := prog_18_method_5_code, exceptionTable := #[], attributes := #[] }
def k11m4 : Method := { name := "reason", desc := "()Ljava/lang/String;", sig := { parameters := [], returnType := some (.object "java/lang/String") }, accessFlags := 1, code := some k11c4 }
/-- com/example/vestwright/vestwright/input/InputException -/
def k11 : Class := { plain "com/example/vestwright/vestwright/input/InputException" (some 10) with
  accessFlags := 49
  interfaces := #[]
  cf := some (fileOf pool11 28 #[] #[{ accessFlags := 1, nameIndex := 5, descriptorIndex := 55, attributes := #[] }, { accessFlags := 1, nameIndex := 5, descriptorIndex := 58, attributes := #[] }, { accessFlags := 1, nameIndex := 31, descriptorIndex := 21, attributes := #[] }, { accessFlags := 1, nameIndex := 35, descriptorIndex := 45, attributes := #[] }, { accessFlags := 1, nameIndex := 39, descriptorIndex := 21, attributes := #[] }] 49 23 #[] #[{ accessFlags := 26, nameIndex := 50, descriptorIndex := 51, attributes := #[] }, { accessFlags := 18, nameIndex := 31, descriptorIndex := 32, attributes := #[] }, { accessFlags := 18, nameIndex := 35, descriptorIndex := 36, attributes := #[] }, { accessFlags := 18, nameIndex := 39, descriptorIndex := 32, attributes := #[] }])
  fields := #[{ name := "serialVersionUID", type := .long, accessFlags := 26, slot := 0, constantValue := 0 }, { name := "file", type := (.object "java/lang/String"), accessFlags := 18, slot := 6, constantValue := 0 }, { name := "line", type := .int, accessFlags := 18, slot := 7, constantValue := 0 }, { name := "reason", type := (.object "java/lang/String"), accessFlags := 18, slot := 8, constantValue := 0 }]
  methods := #[k11m0, k11m1, k11m2, k11m3, k11m4]
  instanceTypes := #[(.object "java/lang/Object"), (.object "java/lang/String"), (.object "java/lang/Throwable"), (.array (.object "java/lang/StackTraceElement")), .int, (.object "java/util/List"), (.object "java/lang/String"), .int, (.object "java/lang/String")]
  staticTypes := #[.long]
  resolved := Array.replicate 62 none
  statics := none }

def pool12 : Array CpInfo := pool [(1, .class_ 2), (0, u "java/lang/Appendable"), (0, .class_ 4), (0, u "java/lang/Object")] 9

/-- java/lang/Appendable -/
def k12 : Class := { plain "java/lang/Appendable" (some 0) with
  accessFlags := 1537
  interfaces := #[]
  cf := some (fileOf pool12 1 #[] #[] 1537 3 #[] #[])
  fields := #[]
  methods := #[]
  instanceTypes := #[]
  staticTypes := #[]
  resolved := Array.replicate 14 none
  statics := none }

def pool13 : Array CpInfo := pool [(1, .class_ 2), (0, u "java/lang/String"), (0, .methodref 4 5), (0, .class_ 6), (0, .nameAndType 7 8), (0, u "java/lang/Object"), (0, u "<init>"), (0, u "()V"), (1, .class_ 12), (1, u "java/lang/AbstractStringBuilder"), (0, u "EMPTYVALUE"), (0, u "[B"), (0, .fieldref 10 16), (0, .nameAndType 17 14), (0, u "value"), (0, .fieldref 1 19), (0, .nameAndType 20 21), (0, u "COMPACT_STRINGS"), (0, u "Z"), (0, .fieldref 10 23), (0, .nameAndType 24 25), (0, u "coder"), (0, u "B"), (6, .methodref 1 33), (0, .nameAndType 34 35), (0, u "length"), (0, u "()I"), (0, .class_ 37), (0, u "java/lang/Integer"), (1, .integer 2147483647), (0, .methodref 1 41), (0, .nameAndType 24 42), (0, u "()B"), (2, u "append"), (0, u "(Ljava/lang/String;)Ljava/lang/AbstractStringBuilder;"), (1, .class_ 49), (0, u "java/lang/CharSequence"), (19, u "(Ljava/lang/String;)V"), (5, u "maybeLatin1"), (3, .fieldref 10 80), (0, .nameAndType 81 82), (0, u "count"), (0, u "I"), (0, .methodref 10 84), (0, .nameAndType 85 86), (0, u "isLatin1"), (0, u "()Z"), (13, .methodref 10 101), (0, .nameAndType 102 103), (0, u "ensureCapacityInternal"), (0, u "(I)V"), (0, .methodref 10 105), (0, .nameAndType 106 107), (0, u "newCapacity"), (0, u "(I)I"), (0, .methodref 109 110), (0, .class_ 111), (0, .nameAndType 112 113), (0, u "java/util/Arrays"), (0, u "copyOf"), (0, u "([BI)[B"), (0, .methodref 115 116), (0, .class_ 117), (0, .nameAndType 118 119), (0, u "jdk/internal/util/ArraysSupport"), (0, u "newLength"), (0, u "(III)I"), (68, u "getChars"), (19, .methodref 10 209), (0, .nameAndType 210 211), (0, u "putStringAt"), (0, u "(ILjava/lang/String;)V"), (5, u "inflateIfNeededFor"), (2, .nameAndType 221 222), (0, u "getBytes"), (0, u "([BIB)V"), (22, .methodref 36 246), (0, .nameAndType 247 107), (0, u "stringSize"), (0, .methodref 36 249), (0, .nameAndType 188 250), (0, u "(II[B)I"), (146, .methodref 10 398), (0, .nameAndType 217 69), (0, .methodref 1 220), (3, u "()[B"), (40, .class_ 445), (0, u "java/lang/Appendable"), (65, u "(I)Ljava/lang/AbstractStringBuilder;"), (40, u "getValue")] 56

def k13m0 : Method := { name := "<init>", desc := "()V", sig := { parameters := [], returnType := none }, accessFlags := 0, code := none }
def k13c1 : Code := { maxStack := 2, maxLocals := 2, code := jdk_68_method_2_code, exceptionTable := #[], attributes := #[] }
def k13m1 : Method := { name := "<init>", desc := "(I)V", sig := { parameters := [.int], returnType := none }, accessFlags := 0, code := some k13c1 }
def k13c2 : Code := { maxStack := 1, maxLocals := 1, code := jdk_68_method_6_code, exceptionTable := #[], attributes := #[] }
def k13m2 : Method := { name := "length", desc := "()I", sig := { parameters := [], returnType := some .int }, accessFlags := 1, code := some k13c2 }
def k13c3 : Code := { maxStack := 4, maxLocals := 3, code := jdk_68_method_9_code, exceptionTable := #[], attributes := #[] }
def k13m3 : Method := { name := "ensureCapacityInternal", desc := "(I)V", sig := { parameters := [.int], returnType := none }, accessFlags := 2, code := some k13c3 }
def k13c4 : Code := { maxStack := 5, maxLocals := 6, code := jdk_68_method_10_code, exceptionTable := #[], attributes := #[] }
def k13m4 : Method := { name := "newCapacity", desc := "(I)I", sig := { parameters := [.int], returnType := some .int }, accessFlags := 2, code := some k13c4 }
def k13c5 : Code := { maxStack := 3, maxLocals := 3, code := jdk_68_method_22_code, exceptionTable := #[], attributes := #[] }
def k13m5 : Method := { name := "append", desc := "(Ljava/lang/String;)Ljava/lang/AbstractStringBuilder;", sig := { parameters := [(.object "java/lang/String")], returnType := some (.object "java/lang/AbstractStringBuilder") }, accessFlags := 1, code := some k13c5 }
def k13c6 : Code := { maxStack := 4, maxLocals := 4, code := jdk_68_method_32_code, exceptionTable := #[], attributes := #[] }
def k13m6 : Method := { name := "append", desc := "(I)Ljava/lang/AbstractStringBuilder;", sig := { parameters := [.int], returnType := some (.object "java/lang/AbstractStringBuilder") }, accessFlags := 1, code := some k13c6 }
def k13c7 : Code := { maxStack := 1, maxLocals := 1, code := jdk_68_method_64_code, exceptionTable := #[], attributes := #[] }
def k13m7 : Method := { name := "getValue", desc := "()[B", sig := { parameters := [], returnType := some (.array .byte) }, accessFlags := 16, code := some k13c7 }
def k13c8 : Code := { maxStack := 1, maxLocals := 1, code := jdk_68_method_68_code, exceptionTable := #[], attributes := #[] }
def k13m8 : Method := { name := "isLatin1", desc := "()Z", sig := { parameters := [], returnType := some .boolean }, accessFlags := 16, code := some k13c8 }
def k13c9 : Code := { maxStack := 2, maxLocals := 2, code := jdk_68_method_71_code, exceptionTable := #[], attributes := #[] }
def k13m9 : Method := { name := "inflateIfNeededFor", desc := "(Ljava/lang/String;)V", sig := { parameters := [(.object "java/lang/String")], returnType := none }, accessFlags := 2, code := some k13c9 }
def k13c10 : Code := { maxStack := 4, maxLocals := 3, code := jdk_68_method_73_code, exceptionTable := #[], attributes := #[] }
def k13m10 : Method := { name := "putStringAt", desc := "(ILjava/lang/String;)V", sig := { parameters := [.int, (.object "java/lang/String")], returnType := none }, accessFlags := 2, code := some k13c10 }
/-- java/lang/AbstractStringBuilder -/
def k13 : Class := { plain "java/lang/AbstractStringBuilder" (some 0) with
  accessFlags := 1056
  interfaces := #[12, 4]
  cf := some (fileOf pool13 10 #[] #[{ accessFlags := 0, nameIndex := 7, descriptorIndex := 8, attributes := #[] }, { accessFlags := 0, nameIndex := 7, descriptorIndex := 103, attributes := #[] }, { accessFlags := 1, nameIndex := 34, descriptorIndex := 35, attributes := #[] }, { accessFlags := 2, nameIndex := 102, descriptorIndex := 103, attributes := #[] }, { accessFlags := 2, nameIndex := 106, descriptorIndex := 107, attributes := #[] }, { accessFlags := 1, nameIndex := 45, descriptorIndex := 46, attributes := #[] }, { accessFlags := 1, nameIndex := 45, descriptorIndex := 511, attributes := #[] }, { accessFlags := 16, nameIndex := 552, descriptorIndex := 403, attributes := #[] }, { accessFlags := 16, nameIndex := 85, descriptorIndex := 86, attributes := #[] }, { accessFlags := 2, nameIndex := 217, descriptorIndex := 69, attributes := #[] }, { accessFlags := 2, nameIndex := 210, descriptorIndex := 211, attributes := #[] }] 1056 4 #[444, 48] #[{ accessFlags := 0, nameIndex := 17, descriptorIndex := 14, attributes := #[] }, { accessFlags := 0, nameIndex := 24, descriptorIndex := 25, attributes := #[] }, { accessFlags := 0, nameIndex := 75, descriptorIndex := 21, attributes := #[] }, { accessFlags := 0, nameIndex := 81, descriptorIndex := 82, attributes := #[] }, { accessFlags := 26, nameIndex := 13, descriptorIndex := 14, attributes := #[] }])
  fields := #[{ name := "value", type := (.array .byte), accessFlags := 0, slot := 0, constantValue := 0 }, { name := "coder", type := .byte, accessFlags := 0, slot := 1, constantValue := 0 }, { name := "maybeLatin1", type := .boolean, accessFlags := 0, slot := 2, constantValue := 0 }, { name := "count", type := .int, accessFlags := 0, slot := 3, constantValue := 0 }, { name := "EMPTYVALUE", type := (.array .byte), accessFlags := 26, slot := 0, constantValue := 0 }]
  methods := #[k13m0, k13m1, k13m2, k13m3, k13m4, k13m5, k13m6, k13m7, k13m8, k13m9, k13m10]
  instanceTypes := #[(.array .byte), .byte, .boolean, .int]
  staticTypes := #[(.array .byte)]
  resolved := Array.replicate 609 none
  statics := none }

def pool14 : Array CpInfo := pool [(1, .methodref 2 3), (0, .class_ 4), (0, .nameAndType 5 6), (0, u "java/lang/AbstractStringBuilder"), (0, u "<init>"), (0, u "(I)V"), (11, .class_ 20), (1, u "java/lang/String"), (3, .class_ 26), (1, u "java/lang/StringBuilder"), (0, u "append"), (0, u "(Ljava/lang/String;)Ljava/lang/StringBuilder;"), (0, .methodref 2 30), (0, .nameAndType 27 31), (0, u "(Ljava/lang/String;)Ljava/lang/AbstractStringBuilder;"), (21, .methodref 2 54), (0, .nameAndType 27 55), (0, u "(I)Ljava/lang/AbstractStringBuilder;"), (81, .methodref 18 138), (0, .nameAndType 5 139), (0, u "(Ljava/lang/StringBuilder;)V"), (5, u "()V"), (10, u "()I"), (111, u "(I)Ljava/lang/StringBuilder;"), (74, .methodref 2 344), (0, .nameAndType 345 156), (0, u "length"), (3, .class_ 350), (0, u "java/lang/Appendable"), (0, .class_ 352), (0, u "java/io/Serializable"), (0, .class_ 354), (0, u "java/lang/Comparable"), (0, .class_ 356), (0, u "java/lang/CharSequence"), (0, u "serialVersionUID"), (0, u "J"), (40, u "toString"), (0, u "()Ljava/lang/String;")] 21

def k14c0 : Code := { maxStack := 2, maxLocals := 1, code := jdk_67_method_1_code, exceptionTable := #[], attributes := #[] }
def k14m0 : Method := { name := "<init>", desc := "()V", sig := { parameters := [], returnType := none }, accessFlags := 1, code := some k14c0 }
def k14c1 : Code := { maxStack := 2, maxLocals := 2, code := jdk_67_method_7_code, exceptionTable := #[], attributes := #[] }
def k14m1 : Method := { name := "append", desc := "(Ljava/lang/String;)Ljava/lang/StringBuilder;", sig := { parameters := [(.object "java/lang/String")], returnType := some (.object "java/lang/StringBuilder") }, accessFlags := 1, code := some k14c1 }
def k14c2 : Code := { maxStack := 2, maxLocals := 2, code := jdk_67_method_15_code, exceptionTable := #[], attributes := #[] }
def k14m2 : Method := { name := "append", desc := "(I)Ljava/lang/StringBuilder;", sig := { parameters := [.int], returnType := some (.object "java/lang/StringBuilder") }, accessFlags := 1, code := some k14c2 }
def k14c3 : Code := { maxStack := 3, maxLocals := 1, code := jdk_67_method_42_code, exceptionTable := #[], attributes := #[] }
def k14m3 : Method := { name := "toString", desc := "()Ljava/lang/String;", sig := { parameters := [], returnType := some (.object "java/lang/String") }, accessFlags := 1, code := some k14c3 }
def k14c4 : Code := { maxStack := 1, maxLocals := 1, code := jdk_67_method_93_code, exceptionTable := #[], attributes := #[] }
def k14m4 : Method := { name := "length", desc := "()I", sig := { parameters := [], returnType := some .int }, accessFlags := 4161, code := some k14c4 }
/-- java/lang/StringBuilder -/
def k14 : Class := { plain "java/lang/StringBuilder" (some 13) with
  accessFlags := 49
  interfaces := #[12, 2, 3, 4]
  cf := some (fileOf pool14 24 #[] #[{ accessFlags := 1, nameIndex := 5, descriptorIndex := 145, attributes := #[] }, { accessFlags := 1, nameIndex := 27, descriptorIndex := 28, attributes := #[] }, { accessFlags := 1, nameIndex := 27, descriptorIndex := 268, attributes := #[] }, { accessFlags := 1, nameIndex := 399, descriptorIndex := 400, attributes := #[] }, { accessFlags := 4161, nameIndex := 345, descriptorIndex := 156, attributes := #[] }] 49 2 #[349, 351, 353, 355] #[{ accessFlags := 24, nameIndex := 357, descriptorIndex := 358, attributes := #[] }])
  fields := #[{ name := "serialVersionUID", type := .long, accessFlags := 24, slot := 0, constantValue := 0 }]
  methods := #[k14m0, k14m1, k14m2, k14m3, k14m4]
  instanceTypes := #[(.array .byte), .byte, .boolean, .int]
  staticTypes := #[.long]
  resolved := Array.replicate 422 none
  statics := none }

def pool15 : Array CpInfo := pool [(2, .class_ 4), (1, u "java/lang/Object"), (0, u "<init>"), (0, u "()V"), (1, .class_ 10), (1, u "java/lang/System"), (0, u "allowSecurityManager"), (0, u "I"), (16, u "cons"), (0, u "Ljava/io/Console;"), (77, .class_ 110), (1, u "java/lang/System$CallersHolder"), (43, u "initialErrStream"), (0, u "Ljava/io/PrintStream;"), (19, u "security"), (0, u "Ljava/lang/SecurityManager;"), (31, .class_ 209), (0, u "java/lang/System$1"), (7, u "props"), (0, u "Ljava/util/Properties;"), (2, u "lineSeparator"), (0, u "Ljava/lang/String;"), (96, .class_ 321), (1, u "java/lang/System$LoggerFinder"), (5, .class_ 328), (0, u "java/lang/System$Logger"), (67, u "err"), (2, u "out"), (91, u "notSupportedJnuEncoding"), (15, u "in"), (17, u "initialIn"), (0, u "Ljava/io/InputStream;"), (35, u "bootLayer"), (0, u "Ljava/lang/ModuleLayer;"), (99, .class_ 664), (0, u "java/lang/System$2"), (9, u "NEVER"), (2, u "MAYBE"), (49, u "arraycopy"), (0, u "(Ljava/lang/Object;ILjava/lang/Object;II)V"), (72, .class_ 802), (0, u "java/lang/System$Logger$Level")] 31

def k15m0 : Method := { name := "<init>", desc := "()V", sig := { parameters := [], returnType := none }, accessFlags := 2, code := none }
def k15m1 : Method := { name := "arraycopy", desc := "(Ljava/lang/Object;ILjava/lang/Object;II)V", sig := { parameters := [(.object "java/lang/Object"), .int, (.object "java/lang/Object"), .int, .int], returnType := none }, accessFlags := 265, code := none }
/-- java/lang/System -/
def k15 : Class := { plain "java/lang/System" (some 0) with
  accessFlags := 49
  interfaces := #[]
  cf := some (fileOf pool15 8 #[.nestMembers #[319, 327, 801, 108, 663, 208]] #[{ accessFlags := 2, nameIndex := 5, descriptorIndex := 6, attributes := #[] }, { accessFlags := 265, nameIndex := 727, descriptorIndex := 728, attributes := #[] }] 49 2 #[] #[{ accessFlags := 25, nameIndex := 507, descriptorIndex := 526, attributes := #[] }, { accessFlags := 25, nameIndex := 399, descriptorIndex := 155, attributes := #[] }, { accessFlags := 25, nameIndex := 396, descriptorIndex := 155, attributes := #[] }, { accessFlags := 10, nameIndex := 525, descriptorIndex := 526, attributes := #[] }, { accessFlags := 26, nameIndex := 674, descriptorIndex := 12, attributes := #[] }, { accessFlags := 26, nameIndex := 677, descriptorIndex := 12, attributes := #[] }, { accessFlags := 10, nameIndex := 11, descriptorIndex := 12, attributes := #[] }, { accessFlags := 74, nameIndex := 175, descriptorIndex := 176, attributes := #[] }, { accessFlags := 10, nameIndex := 491, descriptorIndex := 222, attributes := #[] }, { accessFlags := 74, nameIndex := 29, descriptorIndex := 30, attributes := #[] }, { accessFlags := 74, nameIndex := 154, descriptorIndex := 155, attributes := #[] }, { accessFlags := 10, nameIndex := 217, descriptorIndex := 218, attributes := #[] }, { accessFlags := 10, nameIndex := 221, descriptorIndex := 222, attributes := #[] }, { accessFlags := 8, nameIndex := 562, descriptorIndex := 563, attributes := #[] }])
  fields := #[{ name := "in", type := (.object "java/io/InputStream"), accessFlags := 25, slot := 0, constantValue := 0 }, { name := "out", type := (.object "java/io/PrintStream"), accessFlags := 25, slot := 1, constantValue := 0 }, { name := "err", type := (.object "java/io/PrintStream"), accessFlags := 25, slot := 2, constantValue := 0 }, { name := "initialIn", type := (.object "java/io/InputStream"), accessFlags := 10, slot := 3, constantValue := 0 }, { name := "NEVER", type := .int, accessFlags := 26, slot := 4, constantValue := 0 }, { name := "MAYBE", type := .int, accessFlags := 26, slot := 5, constantValue := 0 }, { name := "allowSecurityManager", type := .int, accessFlags := 10, slot := 6, constantValue := 0 }, { name := "security", type := (.object "java/lang/SecurityManager"), accessFlags := 74, slot := 7, constantValue := 0 }, { name := "notSupportedJnuEncoding", type := (.object "java/lang/String"), accessFlags := 10, slot := 8, constantValue := 0 }, { name := "cons", type := (.object "java/io/Console"), accessFlags := 74, slot := 9, constantValue := 0 }, { name := "initialErrStream", type := (.object "java/io/PrintStream"), accessFlags := 74, slot := 10, constantValue := 0 }, { name := "props", type := (.object "java/util/Properties"), accessFlags := 10, slot := 11, constantValue := 0 }, { name := "lineSeparator", type := (.object "java/lang/String"), accessFlags := 10, slot := 12, constantValue := 0 }, { name := "bootLayer", type := (.object "java/lang/ModuleLayer"), accessFlags := 8, slot := 13, constantValue := 0 }]
  methods := #[k15m0, k15m1]
  instanceTypes := #[]
  staticTypes := #[(.object "java/io/InputStream"), (.object "java/io/PrintStream"), (.object "java/io/PrintStream"), (.object "java/io/InputStream"), .int, .int, .int, (.object "java/lang/SecurityManager"), (.object "java/lang/String"), (.object "java/io/Console"), (.object "java/io/PrintStream"), (.object "java/util/Properties"), (.object "java/lang/String"), (.object "java/lang/ModuleLayer")]
  resolved := Array.replicate 834 none
  statics := none }

def pool16 : Array CpInfo := pool [(2, .class_ 4), (1, u "java/lang/Object"), (0, u "<init>"), (0, u "()V"), (7, .class_ 16), (1, u "java/util/Arrays"), (57, .class_ 76), (1, u "java/util/Arrays$NaturalOrder"), (32, u "()Ljava/lang/Object;"), (3, .class_ 115), (1, u "java/util/Arrays$LegacyMergeSort"), (1, u "Z"), (10, .nameAndType 129 109), (0, u "clone"), (9, u "copyOfRange"), (10, .methodref 151 152), (0, .class_ 153), (0, .nameAndType 154 155), (0, u "java/lang/System"), (0, u "arraycopy"), (0, u "(Ljava/lang/Object;ILjava/lang/Object;II)V"), (146, u "copyOf"), (1, .methodref 305 306), (0, .class_ 307), (0, .nameAndType 308 309), (0, u "java/lang/Math"), (0, u "min"), (0, u "(II)I"), (0, .methodref 311 128), (0, .class_ 312), (0, u "[B"), (26, .methodref 14 340), (0, .nameAndType 341 342), (0, u "copyOfRangeByte"), (0, u "([BII)[B"), (0, .methodref 14 344), (0, .nameAndType 345 346), (0, u "checkLength"), (0, u "(II)V"), (28, .class_ 376), (0, u "java/util/Arrays$ArrayList"), (68, u "$assertionsDisabled"), (269, u "MIN_ARRAY_SORT_GRAN"), (0, u "I"), (2, u "INSERTIONSORT_THRESHOLD"), (149, u "([BI)[B"), (105, .class_ 976), (0, u "java/util/Arrays$ArrayItr")] 52

def k16m0 : Method := { name := "<init>", desc := "()V", sig := { parameters := [], returnType := none }, accessFlags := 2, code := none }
def k16c1 : Code := { maxStack := 6, maxLocals := 3, code := jdk_65_method_121_code, exceptionTable := #[], attributes := #[] }
def k16m1 : Method := { name := "copyOf", desc := "([BI)[B", sig := { parameters := [(.array .byte), .int], returnType := some (.array .byte) }, accessFlags := 9, code := some k16c1 }
def k16c2 : Code := { maxStack := 4, maxLocals := 2, code := jdk_65_method_131_code, exceptionTable := #[], attributes := #[] }
def k16m2 : Method := { name := "checkLength", desc := "(II)V", sig := { parameters := [.int, .int], returnType := none }, accessFlags := 10, code := some k16c2 }
def k16c3 : Code := { maxStack := 3, maxLocals := 3, code := jdk_65_method_132_code, exceptionTable := #[], attributes := #[] }
def k16m3 : Method := { name := "copyOfRange", desc := "([BII)[B", sig := { parameters := [(.array .byte), .int, .int], returnType := some (.array .byte) }, accessFlags := 9, code := some k16c3 }
def k16c4 : Code := { maxStack := 6, maxLocals := 5, code := jdk_65_method_133_code, exceptionTable := #[], attributes := #[] }
def k16m4 : Method := { name := "copyOfRangeByte", desc := "([BII)[B", sig := { parameters := [(.array .byte), .int, .int], returnType := some (.array .byte) }, accessFlags := 10, code := some k16c4 }
/-- java/util/Arrays -/
def k16 : Class := { plain "java/util/Arrays" (some 0) with
  accessFlags := 49
  interfaces := #[]
  cf := some (fileOf pool16 14 #[.nestMembers #[975, 375, 113, 74]] #[{ accessFlags := 2, nameIndex := 5, descriptorIndex := 6, attributes := #[] }, { accessFlags := 9, nameIndex := 302, descriptorIndex := 869, attributes := #[] }, { accessFlags := 10, nameIndex := 345, descriptorIndex := 346, attributes := #[] }, { accessFlags := 9, nameIndex := 139, descriptorIndex := 342, attributes := #[] }, { accessFlags := 10, nameIndex := 341, descriptorIndex := 342, attributes := #[] }] 49 2 #[] #[{ accessFlags := 26, nameIndex := 715, descriptorIndex := 716, attributes := #[] }, { accessFlags := 26, nameIndex := 719, descriptorIndex := 716, attributes := #[] }, { accessFlags := 4120, nameIndex := 445, descriptorIndex := 117, attributes := #[] }])
  fields := #[{ name := "MIN_ARRAY_SORT_GRAN", type := .int, accessFlags := 26, slot := 0, constantValue := 0 }, { name := "INSERTIONSORT_THRESHOLD", type := .int, accessFlags := 26, slot := 1, constantValue := 0 }, { name := "$assertionsDisabled", type := .boolean, accessFlags := 4120, slot := 2, constantValue := 0 }]
  methods := #[k16m0, k16m1, k16m2, k16m3, k16m4]
  instanceTypes := #[]
  staticTypes := #[.int, .int, .boolean]
  resolved := Array.replicate 1029 none
  statics := none }

def pool17 : Array CpInfo := pool [(1, .class_ 2), (0, u "java/lang/Math"), (1, .class_ 6), (1, u "java/lang/Object"), (0, u "<init>"), (0, u "()V"), (89, .class_ 100), (1, u "java/lang/Math$RandomNumberGeneratorHolder"), (71, u "negativeZeroFloatBits"), (0, u "J"), (2, u "negativeZeroDoubleBits"), (21, u "max"), (2, u "min"), (43, u "$assertionsDisabled"), (0, u "Z"), (88, u "(II)I"), (2, u "twoToTheDoubleScaleDown"), (0, u "D"), (4, u "twoToTheDoubleScaleUp"), (9, u "E"), (3, u "PI"), (2, u "TAU"), (2, u "DEGREES_TO_RADIANS"), (0, u "RADIANS_TO_DEGREES")] 94

def k17m0 : Method := { name := "<init>", desc := "()V", sig := { parameters := [], returnType := none }, accessFlags := 2, code := none }
def k17c1 : Code := { maxStack := 2, maxLocals := 2, code := jdk_29_method_65_code, exceptionTable := #[], attributes := #[] }
def k17m1 : Method := { name := "max", desc := "(II)I", sig := { parameters := [.int, .int], returnType := some .int }, accessFlags := 9, code := some k17c1 }
def k17c2 : Code := { maxStack := 2, maxLocals := 2, code := jdk_29_method_69_code, exceptionTable := #[], attributes := #[] }
def k17m2 : Method := { name := "min", desc := "(II)I", sig := { parameters := [.int, .int], returnType := some .int }, accessFlags := 9, code := some k17c2 }
/-- java/lang/Math -/
def k17 : Class := { plain "java/lang/Math" (some 0) with
  accessFlags := 49
  interfaces := #[]
  cf := some (fileOf pool17 1 #[.nestMembers #[98]] #[{ accessFlags := 2, nameIndex := 7, descriptorIndex := 8, attributes := #[] }, { accessFlags := 9, nameIndex := 198, descriptorIndex := 335, attributes := #[] }, { accessFlags := 9, nameIndex := 201, descriptorIndex := 335, attributes := #[] }] 49 4 #[] #[{ accessFlags := 25, nameIndex := 354, descriptorIndex := 339, attributes := #[] }, { accessFlags := 25, nameIndex := 358, descriptorIndex := 339, attributes := #[] }, { accessFlags := 25, nameIndex := 361, descriptorIndex := 339, attributes := #[] }, { accessFlags := 26, nameIndex := 364, descriptorIndex := 339, attributes := #[] }, { accessFlags := 26, nameIndex := 365, descriptorIndex := 339, attributes := #[] }, { accessFlags := 26, nameIndex := 172, descriptorIndex := 173, attributes := #[] }, { accessFlags := 26, nameIndex := 176, descriptorIndex := 173, attributes := #[] }, { accessFlags := 8, nameIndex := 344, descriptorIndex := 339, attributes := #[] }, { accessFlags := 8, nameIndex := 338, descriptorIndex := 339, attributes := #[] }, { accessFlags := 4120, nameIndex := 245, descriptorIndex := 246, attributes := #[] }])
  fields := #[{ name := "E", type := .double, accessFlags := 25, slot := 0, constantValue := 0 }, { name := "PI", type := .double, accessFlags := 25, slot := 1, constantValue := 0 }, { name := "TAU", type := .double, accessFlags := 25, slot := 2, constantValue := 0 }, { name := "DEGREES_TO_RADIANS", type := .double, accessFlags := 26, slot := 3, constantValue := 0 }, { name := "RADIANS_TO_DEGREES", type := .double, accessFlags := 26, slot := 4, constantValue := 0 }, { name := "negativeZeroFloatBits", type := .long, accessFlags := 26, slot := 5, constantValue := 0 }, { name := "negativeZeroDoubleBits", type := .long, accessFlags := 26, slot := 6, constantValue := 0 }, { name := "twoToTheDoubleScaleUp", type := .double, accessFlags := 8, slot := 7, constantValue := 0 }, { name := "twoToTheDoubleScaleDown", type := .double, accessFlags := 8, slot := 8, constantValue := 0 }, { name := "$assertionsDisabled", type := .boolean, accessFlags := 4120, slot := 9, constantValue := 0 }]
  methods := #[k17m0, k17m1, k17m2]
  instanceTypes := #[]
  staticTypes := #[.double, .double, .double, .double, .double, .long, .long, .double, .double, .boolean]
  resolved := Array.replicate 460 none
  statics := none }

def pool18 : Array CpInfo := pool [(1, .methodref 2 3), (0, .class_ 4), (0, .nameAndType 5 6), (0, u "java/lang/Exception"), (0, u "<init>"), (0, u "(Ljava/lang/String;Ljava/lang/Throwable;)V"), (0, .fieldref 8 9), (0, .class_ 10), (0, .nameAndType 11 12), (0, u "com/example/vestwright/vestwright/run/RunRefusedException"), (0, u "kind"), (0, u "Lcom/example/vestwright/vestwright/run/RunRefusedException$Kind;"), (0, .fieldref 14 15), (0, .class_ 16), (0, .nameAndType 17 12), (0, u "com/example/vestwright/vestwright/run/RunRefusedException$Kind"), (0, u "INPUT"), (0, .methodref 19 20), (0, .class_ 21), (0, .nameAndType 22 23), (0, u "com/example/vestwright/vestwright/input/InputException"), (0, u "getMessage"), (0, u "()Ljava/lang/String;"), (0, .methodref 8 25), (0, .nameAndType 5 26), (0, u "(Lcom/example/vestwright/vestwright/run/RunRefusedException$Kind;Ljava/lang/String;Ljava/lang/Exception;)V"), (41, .methodref 8 69), (0, .nameAndType 70 71), (0, u "input"), (0, u "()Lcom/example/vestwright/vestwright/input/InputException;"), (0, .methodref 19 73), (0, .nameAndType 74 23), (0, u "file"), (0, .methodref 76 77), (0, .class_ 78), (0, .nameAndType 79 80), (0, u "java/util/Optional"), (0, u "of"), (0, u "(Ljava/lang/Object;)Ljava/util/Optional;"), (2, u "empty"), (0, u "()Ljava/util/Optional;"), (0, .methodref 19 86), (0, .nameAndType 87 88), (0, u "line"), (0, u "()Ljava/util/OptionalInt;"), (0, .methodref 90 91), (0, .class_ 92), (0, .nameAndType 83 88), (0, u "java/util/OptionalInt"), (0, .methodref 19 94), (0, .nameAndType 95 23), (0, u "reason"), (0, .methodref 8 20), (0, .methodref 8 98), (0, .nameAndType 99 100), (0, u "getCause"), (0, u "()Ljava/lang/Throwable;"), (0, u "serialVersionUID"), (0, u "J"), (3, u "FIGURES_HINT"), (0, u "Ljava/lang/String;"), (2, u "(Lcom/example/vestwright/vestwright/input/InputException;)Lcom/example/vestwright/vestwright/run/RunRefusedException;"), (6, u "()Lcom/example/vestwright/vestwright/run/RunRefusedException$Kind;")] 7

def k18c0 : Code := { maxStack := 3, maxLocals := 4, code := prog_47_method_1_code, exceptionTable := #[], attributes := #[] }
def k18m0 : Method := { name := "<init>", desc := "(Lcom/example/vestwright/vestwright/run/RunRefusedException$Kind;Ljava/lang/String;Ljava/lang/Exception;)V", sig := { parameters := [(.object "com/example/vestwright/vestwright/run/RunRefusedException$Kind"), (.object "java/lang/String"), (.object "java/lang/Exception")], returnType := none }, accessFlags := 2, code := some k18c0 }
def k18c1 : Code := { maxStack := 5, maxLocals := 1, code := prog_47_method_2_code, exceptionTable := #[], attributes := #[] }
def k18m1 : Method := { name := "of", desc := "(Lcom/example/vestwright/vestwright/input/InputException;)Lcom/example/vestwright/vestwright/run/RunRefusedException;", sig := { parameters := [(.object "com/example/vestwright/vestwright/input/InputException")], returnType := some (.object "com/example/vestwright/vestwright/run/RunRefusedException") }, accessFlags := 8, code := some k18c1 }
def k18c2 : Code := { maxStack := 1, maxLocals := 1, code := prog_47_method_5_code, exceptionTable := #[], attributes := #[] }
def k18m2 : Method := { name := "kind", desc := "()Lcom/example/vestwright/vestwright/run/RunRefusedException$Kind;", sig := { parameters := [], returnType := some (.object "com/example/vestwright/vestwright/run/RunRefusedException$Kind") }, accessFlags := 1, code := some k18c2 }
def k18c3 : Code := { maxStack := 2, maxLocals := 1, code := prog_47_method_6_code, exceptionTable := #[], attributes := #[] }
def k18m3 : Method := { name := "file", desc := "()Ljava/util/Optional;", sig := { parameters := [], returnType := some (.object "java/util/Optional") }, accessFlags := 1, code := some k18c3 }
def k18c4 : Code := { maxStack := 2, maxLocals := 1, code := prog_47_method_7_code, exceptionTable := #[], attributes := #[] }
def k18m4 : Method := { name := "line", desc := "()Ljava/util/OptionalInt;", sig := { parameters := [], returnType := some (.object "java/util/OptionalInt") }, accessFlags := 1, code := some k18c4 }
def k18c5 : Code := { maxStack := 2, maxLocals := 1, code := prog_47_method_8_code, exceptionTable := #[], attributes := #[] }
def k18m5 : Method := { name := "reason", desc := "()Ljava/lang/String;", sig := { parameters := [], returnType := some (.object "java/lang/String") }, accessFlags := 1, code := some k18c5 }
def k18c6 : Code := { maxStack := 1, maxLocals := 1, code := prog_47_method_9_code, exceptionTable := #[], attributes := #[] }
def k18m6 : Method := { name := "input", desc := "()Lcom/example/vestwright/vestwright/input/InputException;", sig := { parameters := [], returnType := some (.object "com/example/vestwright/vestwright/input/InputException") }, accessFlags := 2, code := some k18c6 }
/-- com/example/vestwright/vestwright/run/RunRefusedException -/
def k18 : Class := { plain "com/example/vestwright/vestwright/run/RunRefusedException" (some 10) with
  accessFlags := 49
  interfaces := #[]
  cf := some (fileOf pool18 8 #[.nestMembers #[14]] #[{ accessFlags := 2, nameIndex := 5, descriptorIndex := 26, attributes := #[] }, { accessFlags := 8, nameIndex := 79, descriptorIndex := 110, attributes := #[] }, { accessFlags := 1, nameIndex := 11, descriptorIndex := 117, attributes := #[] }, { accessFlags := 1, nameIndex := 74, descriptorIndex := 84, attributes := #[] }, { accessFlags := 1, nameIndex := 87, descriptorIndex := 88, attributes := #[] }, { accessFlags := 1, nameIndex := 95, descriptorIndex := 23, attributes := #[] }, { accessFlags := 2, nameIndex := 70, descriptorIndex := 71, attributes := #[] }] 49 2 #[] #[{ accessFlags := 26, nameIndex := 101, descriptorIndex := 102, attributes := #[] }, { accessFlags := 26, nameIndex := 106, descriptorIndex := 107, attributes := #[] }, { accessFlags := 18, nameIndex := 11, descriptorIndex := 12, attributes := #[] }])
  fields := #[{ name := "serialVersionUID", type := .long, accessFlags := 26, slot := 0, constantValue := 0 }, { name := "FIGURES_HINT", type := (.object "java/lang/String"), accessFlags := 26, slot := 1, constantValue := 0 }, { name := "kind", type := (.object "com/example/vestwright/vestwright/run/RunRefusedException$Kind"), accessFlags := 18, slot := 6, constantValue := 0 }]
  methods := #[k18m0, k18m1, k18m2, k18m3, k18m4, k18m5, k18m6]
  instanceTypes := #[(.object "java/lang/Object"), (.object "java/lang/String"), (.object "java/lang/Throwable"), (.array (.object "java/lang/StackTraceElement")), .int, (.object "java/util/List"), (.object "com/example/vestwright/vestwright/run/RunRefusedException$Kind")]
  staticTypes := #[.long, (.object "java/lang/String")]
  resolved := Array.replicate 125 none
  statics := none }

def pool19 : Array CpInfo := pool [(2, .class_ 4), (1, u "java/lang/Enum"), (0, u "name"), (0, u "Ljava/lang/String;"), (2, u "ordinal"), (0, u "I"), (1, .class_ 14), (1, u "java/lang/Object"), (4, u "hash"), (86, .class_ 108), (1, u "java/lang/Enum$EnumDesc"), (2, .class_ 112), (0, u "java/lang/constant/Constable"), (0, .class_ 114), (0, u "java/lang/Comparable"), (0, .class_ 116), (0, u "java/io/Serializable")] 87

/-- java/lang/Enum -/
def k19 : Class := { plain "java/lang/Enum" (some 0) with
  accessFlags := 1057
  interfaces := #[5, 3, 2]
  cf := some (fileOf pool19 2 #[.nestMembers #[106]] #[] 1057 12 #[111, 113, 115] #[{ accessFlags := 18, nameIndex := 5, descriptorIndex := 6, attributes := #[] }, { accessFlags := 18, nameIndex := 9, descriptorIndex := 10, attributes := #[] }, { accessFlags := 2, nameIndex := 19, descriptorIndex := 10, attributes := #[] }])
  fields := #[{ name := "name", type := (.object "java/lang/String"), accessFlags := 18, slot := 0, constantValue := 0 }, { name := "ordinal", type := .int, accessFlags := 18, slot := 1, constantValue := 0 }, { name := "hash", type := .int, accessFlags := 2, slot := 2, constantValue := 0 }]
  methods := #[]
  instanceTypes := #[(.object "java/lang/String"), .int, .int]
  staticTypes := #[]
  resolved := Array.replicate 204 none
  statics := none }

def pool20 : Array CpInfo := pool [(1, .class_ 2), (0, u "com/example/vestwright/vestwright/run/RunRefusedException$Kind"), (2, u "INPUT"), (0, u "Lcom/example/vestwright/vestwright/run/RunRefusedException$Kind;"), (2, u "MISSING_FIGURE"), (2, u "NO_ELECTIONS"), (2, u "$VALUES"), (0, u "[Lcom/example/vestwright/vestwright/run/RunRefusedException$Kind;"), (6, .class_ 25), (1, u "java/lang/Enum"), (26, .class_ 53), (0, u "com/example/vestwright/vestwright/run/RunRefusedException")] 2

/-- com/example/vestwright/vestwright/run/RunRefusedException$Kind -/
def k20 : Class := { plain "com/example/vestwright/vestwright/run/RunRefusedException$Kind" (some 19) with
  accessFlags := 16433
  interfaces := #[]
  cf := some (fileOf pool20 1 #[.nestHost 52] #[] 16433 23 #[] #[{ accessFlags := 16409, nameIndex := 5, descriptorIndex := 6, attributes := #[] }, { accessFlags := 16409, nameIndex := 9, descriptorIndex := 6, attributes := #[] }, { accessFlags := 16409, nameIndex := 12, descriptorIndex := 6, attributes := #[] }, { accessFlags := 4122, nameIndex := 15, descriptorIndex := 16, attributes := #[] }])
  fields := #[{ name := "INPUT", type := (.object "com/example/vestwright/vestwright/run/RunRefusedException$Kind"), accessFlags := 16409, slot := 0, constantValue := 0 }, { name := "MISSING_FIGURE", type := (.object "com/example/vestwright/vestwright/run/RunRefusedException$Kind"), accessFlags := 16409, slot := 1, constantValue := 0 }, { name := "NO_ELECTIONS", type := (.object "com/example/vestwright/vestwright/run/RunRefusedException$Kind"), accessFlags := 16409, slot := 2, constantValue := 0 }, { name := "$VALUES", type := (.array (.object "com/example/vestwright/vestwright/run/RunRefusedException$Kind")), accessFlags := 4122, slot := 3, constantValue := 0 }]
  methods := #[]
  instanceTypes := #[(.object "java/lang/String"), .int, .int]
  staticTypes := #[(.object "com/example/vestwright/vestwright/run/RunRefusedException$Kind"), (.object "com/example/vestwright/vestwright/run/RunRefusedException$Kind"), (.object "com/example/vestwright/vestwright/run/RunRefusedException$Kind"), (.array (.object "com/example/vestwright/vestwright/run/RunRefusedException$Kind"))]
  resolved := Array.replicate 56 none
  statics := some 2 }

def pool21 : Array CpInfo := pool [(2, .class_ 4), (1, u "java/util/Optional"), (0, u "EMPTY"), (0, u "Ljava/util/Optional;"), (0, .methodref 8 9), (0, .class_ 10), (0, .nameAndType 11 12), (0, u "java/lang/Object"), (0, u "<init>"), (0, u "()V"), (0, .fieldref 2 14), (0, .nameAndType 15 16), (0, u "value"), (0, u "Ljava/lang/Object;"), (0, .methodref 18 19), (0, .class_ 20), (0, .nameAndType 21 22), (0, u "java/util/Objects"), (0, u "requireNonNull"), (0, u "(Ljava/lang/Object;)Ljava/lang/Object;"), (0, .methodref 2 24), (0, .nameAndType 11 25), (0, u "(Ljava/lang/Object;)V"), (20, u "()Z"), (18, u "(Ljava/lang/Object;)Ljava/util/Optional;"), (2, u "isPresent"), (4, u "get"), (0, u "()Ljava/lang/Object;"), (7, u "of")] 104

def k21c0 : Code := { maxStack := 2, maxLocals := 2, code := jdk_32_method_2_code, exceptionTable := #[], attributes := #[] }
def k21m0 : Method := { name := "<init>", desc := "(Ljava/lang/Object;)V", sig := { parameters := [(.object "java/lang/Object")], returnType := none }, accessFlags := 2, code := some k21c0 }
def k21c1 : Code := { maxStack := 3, maxLocals := 1, code := jdk_32_method_3_code, exceptionTable := #[], attributes := #[] }
def k21m1 : Method := { name := "of", desc := "(Ljava/lang/Object;)Ljava/util/Optional;", sig := { parameters := [(.object "java/lang/Object")], returnType := some (.object "java/util/Optional") }, accessFlags := 9, code := some k21c1 }
def k21c2 : Code := { maxStack := 3, maxLocals := 1, code := jdk_32_method_5_code, exceptionTable := #[], attributes := #[] }
def k21m2 : Method := { name := "get", desc := "()Ljava/lang/Object;", sig := { parameters := [], returnType := some (.object "java/lang/Object") }, accessFlags := 1, code := some k21c2 }
def k21c3 : Code := { maxStack := 1, maxLocals := 1, code := jdk_32_method_6_code, exceptionTable := #[], attributes := #[] }
def k21m3 : Method := { name := "isPresent", desc := "()Z", sig := { parameters := [], returnType := some .boolean }, accessFlags := 1, code := some k21c3 }
/-- java/util/Optional -/
def k21 : Class := { plain "java/util/Optional" (some 0) with
  accessFlags := 49
  interfaces := #[]
  cf := some (fileOf pool21 2 #[] #[{ accessFlags := 2, nameIndex := 11, descriptorIndex := 25, attributes := #[] }, { accessFlags := 9, nameIndex := 82, descriptorIndex := 65, attributes := #[] }, { accessFlags := 1, nameIndex := 73, descriptorIndex := 74, attributes := #[] }, { accessFlags := 1, nameIndex := 68, descriptorIndex := 46, attributes := #[] }] 49 8 #[] #[{ accessFlags := 26, nameIndex := 5, descriptorIndex := 6, attributes := #[] }, { accessFlags := 18, nameIndex := 15, descriptorIndex := 16, attributes := #[] }])
  fields := #[{ name := "EMPTY", type := (.object "java/util/Optional"), accessFlags := 26, slot := 0, constantValue := 0 }, { name := "value", type := (.object "java/lang/Object"), accessFlags := 18, slot := 0, constantValue := 0 }]
  methods := #[k21m0, k21m1, k21m2, k21m3]
  instanceTypes := #[(.object "java/lang/Object")]
  staticTypes := #[(.object "java/util/Optional")]
  resolved := Array.replicate 187 none
  statics := none }

def pool22 : Array CpInfo := pool [(2, .class_ 4), (1, u "java/lang/Object"), (0, u "<init>"), (0, u "()V"), (35, .class_ 44), (1, u "java/util/Objects"), (0, u "requireNonNull"), (0, u "(Ljava/lang/Object;)Ljava/lang/Object;")] 137

def k22m0 : Method := { name := "<init>", desc := "()V", sig := { parameters := [], returnType := none }, accessFlags := 2, code := none }
def k22c1 : Code := { maxStack := 2, maxLocals := 1, code := jdk_31_method_10_code, exceptionTable := #[], attributes := #[] }
def k22m1 : Method := { name := "requireNonNull", desc := "(Ljava/lang/Object;)Ljava/lang/Object;", sig := { parameters := [(.object "java/lang/Object")], returnType := some (.object "java/lang/Object") }, accessFlags := 9, code := some k22c1 }
/-- java/util/Objects -/
def k22 : Class := { plain "java/util/Objects" (some 0) with
  accessFlags := 49
  interfaces := #[]
  cf := some (fileOf pool22 42 #[] #[{ accessFlags := 2, nameIndex := 5, descriptorIndex := 6, attributes := #[] }, { accessFlags := 9, nameIndex := 45, descriptorIndex := 46, attributes := #[] }] 49 2 #[] #[])
  fields := #[]
  methods := #[k22m0, k22m1]
  instanceTypes := #[]
  staticTypes := #[]
  resolved := Array.replicate 184 none
  statics := none }

def pool23 : Array CpInfo := pool [(1, .methodref 2 3), (0, .class_ 4), (0, .nameAndType 5 6), (0, u "java/lang/Object"), (0, u "<init>"), (0, u "()V"), (0, .fieldref 8 9), (0, .class_ 10), (0, .nameAndType 11 12), (0, u "java/util/OptionalInt"), (0, u "isPresent"), (0, u "Z"), (0, .fieldref 8 14), (0, .nameAndType 15 16), (0, u "value"), (0, u "I"), (0, .fieldref 8 18), (0, .nameAndType 19 20), (0, u "EMPTY"), (0, u "Ljava/util/OptionalInt;"), (0, .methodref 8 22), (0, .nameAndType 5 23), (0, u "(I)V"), (21, u "of"), (3, u "empty"), (5, u "getAsInt"), (0, u "()I"), (39, u "()Ljava/util/OptionalInt;"), (0, u "(I)Ljava/util/OptionalInt;"), (1, u "()Z")] 36

def k23m0 : Method := { name := "<init>", desc := "()V", sig := { parameters := [], returnType := none }, accessFlags := 2, code := none }
def k23c1 : Code := { maxStack := 1, maxLocals := 0, code := jdk_2649_method_2_code, exceptionTable := #[], attributes := #[] }
def k23m1 : Method := { name := "empty", desc := "()Ljava/util/OptionalInt;", sig := { parameters := [], returnType := some (.object "java/util/OptionalInt") }, accessFlags := 9, code := some k23c1 }
def k23c2 : Code := { maxStack := 2, maxLocals := 2, code := jdk_2649_method_3_code, exceptionTable := #[], attributes := #[] }
def k23m2 : Method := { name := "<init>", desc := "(I)V", sig := { parameters := [.int], returnType := none }, accessFlags := 2, code := some k23c2 }
def k23c3 : Code := { maxStack := 3, maxLocals := 1, code := jdk_2649_method_4_code, exceptionTable := #[], attributes := #[] }
def k23m3 : Method := { name := "of", desc := "(I)Ljava/util/OptionalInt;", sig := { parameters := [.int], returnType := some (.object "java/util/OptionalInt") }, accessFlags := 9, code := some k23c3 }
def k23c4 : Code := { maxStack := 3, maxLocals := 1, code := jdk_2649_method_5_code, exceptionTable := #[], attributes := #[] }
def k23m4 : Method := { name := "getAsInt", desc := "()I", sig := { parameters := [], returnType := some .int }, accessFlags := 1, code := some k23c4 }
def k23c5 : Code := { maxStack := 1, maxLocals := 1, code := jdk_2649_method_6_code, exceptionTable := #[], attributes := #[] }
def k23m5 : Method := { name := "isPresent", desc := "()Z", sig := { parameters := [], returnType := some .boolean }, accessFlags := 1, code := some k23c5 }
/-- java/util/OptionalInt -/
def k23 : Class := { plain "java/util/OptionalInt" (some 0) with
  accessFlags := 49
  interfaces := #[]
  cf := some (fileOf pool23 8 #[] #[{ accessFlags := 2, nameIndex := 5, descriptorIndex := 6, attributes := #[] }, { accessFlags := 9, nameIndex := 49, descriptorIndex := 96, attributes := #[] }, { accessFlags := 2, nameIndex := 5, descriptorIndex := 23, attributes := #[] }, { accessFlags := 9, nameIndex := 45, descriptorIndex := 97, attributes := #[] }, { accessFlags := 1, nameIndex := 55, descriptorIndex := 56, attributes := #[] }, { accessFlags := 1, nameIndex := 11, descriptorIndex := 99, attributes := #[] }] 49 2 #[] #[{ accessFlags := 26, nameIndex := 19, descriptorIndex := 20, attributes := #[] }, { accessFlags := 18, nameIndex := 11, descriptorIndex := 12, attributes := #[] }, { accessFlags := 18, nameIndex := 15, descriptorIndex := 16, attributes := #[] }])
  fields := #[{ name := "EMPTY", type := (.object "java/util/OptionalInt"), accessFlags := 26, slot := 0, constantValue := 0 }, { name := "isPresent", type := .boolean, accessFlags := 18, slot := 0, constantValue := 0 }, { name := "value", type := .int, accessFlags := 18, slot := 1, constantValue := 0 }]
  methods := #[k23m0, k23m1, k23m2, k23m3, k23m4, k23m5]
  instanceTypes := #[.boolean, .int]
  staticTypes := #[(.object "java/util/OptionalInt")]
  resolved := Array.replicate 136 none
  statics := some 3 }

def pool24 : Array CpInfo := pool [(2, .class_ 4), (1, u "java/lang/Object"), (0, u "<init>"), (0, u "()V"), (1, .class_ 10), (1, u "java/lang/Number"), (2, .class_ 14), (0, u "java/io/Serializable"), (0, u "serialVersionUID"), (0, u "J")] 20

def k24m0 : Method := { name := "<init>", desc := "()V", sig := { parameters := [], returnType := none }, accessFlags := 1, code := none }
/-- java/lang/Number -/
def k24 : Class := { plain "java/lang/Number" (some 0) with
  accessFlags := 1057
  interfaces := #[2]
  cf := some (fileOf pool24 8 #[] #[{ accessFlags := 1, nameIndex := 5, descriptorIndex := 6, attributes := #[] }] 1057 2 #[13] #[{ accessFlags := 26, nameIndex := 15, descriptorIndex := 16, attributes := #[] }])
  fields := #[{ name := "serialVersionUID", type := .long, accessFlags := 26, slot := 0, constantValue := 0 }]
  methods := #[k24m0]
  instanceTypes := #[]
  staticTypes := #[.long]
  resolved := Array.replicate 37 none
  statics := none }

def pool25 : Array CpInfo := pool [(1, .class_ 2), (0, u "java/lang/Integer"), (16, u "digits"), (0, u "[C"), (33, u "(I)I"), (19, u "stringSize"), (2, u "getChars"), (0, u "(II[B)I"), (4, .fieldref 1 84), (0, .nameAndType 85 86), (0, u "DigitOnes"), (0, u "[B"), (0, .fieldref 1 88), (0, .nameAndType 89 86), (0, u "DigitTens"), (99, .class_ 190), (0, u "java/lang/Integer$IntegerCache"), (3, u "I"), (8, .class_ 204), (0, u "java/lang/Number"), (2, u "value"), (94, u "TYPE"), (0, u "Ljava/lang/Class;"), (0, .class_ 305), (0, u "java/lang/Comparable"), (0, .class_ 307), (0, u "java/lang/constant/Constable"), (0, .class_ 309), (0, u "java/lang/constant/ConstantDesc"), (0, u "MIN_VALUE"), (1, u "MAX_VALUE"), (3, u "SIZE"), (1, u "BYTES"), (1, u "serialVersionUID"), (0, u "J")] 131

def k25c0 : Code := { maxStack := 4, maxLocals := 7, code := jdk_33_method_12_code, exceptionTable := #[], attributes := #[] }
def k25m0 : Method := { name := "getChars", desc := "(II[B)I", sig := { parameters := [.int, .int, (.array .byte)], returnType := some .int }, accessFlags := 8, code := some k25c0 }
def k25c1 : Code := { maxStack := 2, maxLocals := 4, code := jdk_33_method_13_code, exceptionTable := #[], attributes := #[] }
def k25m1 : Method := { name := "stringSize", desc := "(I)I", sig := { parameters := [.int], returnType := some .int }, accessFlags := 8, code := some k25c1 }
/-- java/lang/Integer -/
def k25 : Class := { plain "java/lang/Integer" (some 24) with
  accessFlags := 49
  interfaces := #[3, 5, 6]
  cf := some (fileOf pool25 1 #[.nestMembers #[189]] #[{ accessFlags := 8, nameIndex := 77, descriptorIndex := 78, attributes := #[] }, { accessFlags := 8, nameIndex := 74, descriptorIndex := 54, attributes := #[] }] 49 203 #[304, 306, 308] #[{ accessFlags := 25, nameIndex := 310, descriptorIndex := 194, attributes := #[] }, { accessFlags := 25, nameIndex := 312, descriptorIndex := 194, attributes := #[] }, { accessFlags := 25, nameIndex := 302, descriptorIndex := 303, attributes := #[] }, { accessFlags := 24, nameIndex := 19, descriptorIndex := 20, attributes := #[] }, { accessFlags := 24, nameIndex := 89, descriptorIndex := 86, attributes := #[] }, { accessFlags := 24, nameIndex := 85, descriptorIndex := 86, attributes := #[] }, { accessFlags := 18, nameIndex := 207, descriptorIndex := 194, attributes := #[] }, { accessFlags := 25, nameIndex := 316, descriptorIndex := 194, attributes := #[] }, { accessFlags := 25, nameIndex := 318, descriptorIndex := 194, attributes := #[] }, { accessFlags := 26, nameIndex := 320, descriptorIndex := 321, attributes := #[] }])
  fields := #[{ name := "MIN_VALUE", type := .int, accessFlags := 25, slot := 0, constantValue := 0 }, { name := "MAX_VALUE", type := .int, accessFlags := 25, slot := 1, constantValue := 0 }, { name := "TYPE", type := (.object "java/lang/Class"), accessFlags := 25, slot := 2, constantValue := 0 }, { name := "digits", type := (.array .char), accessFlags := 24, slot := 3, constantValue := 0 }, { name := "DigitTens", type := (.array .byte), accessFlags := 24, slot := 4, constantValue := 0 }, { name := "DigitOnes", type := (.array .byte), accessFlags := 24, slot := 5, constantValue := 0 }, { name := "value", type := .int, accessFlags := 18, slot := 0, constantValue := 0 }, { name := "SIZE", type := .int, accessFlags := 25, slot := 6, constantValue := 0 }, { name := "BYTES", type := .int, accessFlags := 25, slot := 7, constantValue := 0 }, { name := "serialVersionUID", type := .long, accessFlags := 26, slot := 8, constantValue := 0 }]
  methods := #[k25m0, k25m1]
  instanceTypes := #[.int]
  staticTypes := #[.int, .int, (.object "java/lang/Class"), (.array .char), (.array .byte), (.array .byte), .int, .int, .long]
  resolved := Array.replicate 453 none
  statics := some 4 }

def pool26 : Array CpInfo := pool [(9, u "<init>"), (6, .class_ 18), (1, u "java/lang/Object"), (0, u "()V"), (1, .class_ 23), (1, u "jdk/internal/util/ArraysSupport"), (0, u "LOG2_ARRAY_LONG_INDEX_SCALE"), (0, u "I"), (2, u "U"), (0, u "Ljdk/internal/misc/Unsafe;"), (8, u "BIG_ENDIAN"), (0, u "Z"), (8, u "LOG2_BYTE_BIT_SIZE"), (4, u "LOG2_ARRAY_INT_INDEX_SCALE"), (54, u "JLA"), (0, u "Ljdk/internal/access/JavaLangAccess;"), (11, u "LOG2_ARRAY_BOOLEAN_INDEX_SCALE"), (9, u "LOG2_ARRAY_BYTE_INDEX_SCALE"), (5, u "LOG2_ARRAY_CHAR_INDEX_SCALE"), (5, u "LOG2_ARRAY_SHORT_INDEX_SCALE"), (18, u "LOG2_ARRAY_FLOAT_INDEX_SCALE"), (24, u "LOG2_ARRAY_DOUBLE_INDEX_SCALE"), (6, .methodref 195 196), (0, .class_ 197), (0, .nameAndType 198 199), (0, u "java/lang/Math"), (0, u "max"), (0, u "(II)I"), (0, .integer 2147483639), (76, u "T_BOOLEAN"), (2, u "T_CHAR"), (1, u "T_FLOAT"), (1, u "T_DOUBLE"), (1, u "T_BYTE"), (1, u "T_SHORT"), (1, u "T_INT"), (1, u "T_LONG"), (1, u "SOFT_MAX_ARRAY_LENGTH"), (56, u "newLength"), (0, u "(III)I")] 25

def k26m0 : Method := { name := "<init>", desc := "()V", sig := { parameters := [], returnType := none }, accessFlags := 2, code := none }
def k26c1 : Code := { maxStack := 3, maxLocals := 4, code := jdk_48_method_27_code, exceptionTable := #[], attributes := #[] }
def k26m1 : Method := { name := "newLength", desc := "(III)I", sig := { parameters := [.int, .int, .int], returnType := some .int }, accessFlags := 9, code := some k26c1 }
/-- jdk/internal/util/ArraysSupport -/
def k26 : Class := { plain "jdk/internal/util/ArraysSupport" (some 0) with
  accessFlags := 33
  interfaces := #[]
  cf := some (fileOf pool26 21 #[] #[{ accessFlags := 2, nameIndex := 9, descriptorIndex := 19, attributes := #[] }, { accessFlags := 9, nameIndex := 351, descriptorIndex := 352, attributes := #[] }] 33 16 #[] #[{ accessFlags := 24, nameIndex := 28, descriptorIndex := 29, attributes := #[] }, { accessFlags := 26, nameIndex := 38, descriptorIndex := 39, attributes := #[] }, { accessFlags := 25, nameIndex := 121, descriptorIndex := 25, attributes := #[] }, { accessFlags := 25, nameIndex := 131, descriptorIndex := 25, attributes := #[] }, { accessFlags := 25, nameIndex := 137, descriptorIndex := 25, attributes := #[] }, { accessFlags := 25, nameIndex := 143, descriptorIndex := 25, attributes := #[] }, { accessFlags := 25, nameIndex := 53, descriptorIndex := 25, attributes := #[] }, { accessFlags := 25, nameIndex := 24, descriptorIndex := 25, attributes := #[] }, { accessFlags := 25, nameIndex := 162, descriptorIndex := 25, attributes := #[] }, { accessFlags := 25, nameIndex := 187, descriptorIndex := 25, attributes := #[] }, { accessFlags := 26, nameIndex := 48, descriptorIndex := 25, attributes := #[] }, { accessFlags := 25, nameIndex := 277, descriptorIndex := 25, attributes := #[] }, { accessFlags := 25, nameIndex := 280, descriptorIndex := 25, attributes := #[] }, { accessFlags := 25, nameIndex := 282, descriptorIndex := 25, attributes := #[] }, { accessFlags := 25, nameIndex := 284, descriptorIndex := 25, attributes := #[] }, { accessFlags := 25, nameIndex := 286, descriptorIndex := 25, attributes := #[] }, { accessFlags := 25, nameIndex := 288, descriptorIndex := 25, attributes := #[] }, { accessFlags := 25, nameIndex := 290, descriptorIndex := 25, attributes := #[] }, { accessFlags := 25, nameIndex := 292, descriptorIndex := 25, attributes := #[] }, { accessFlags := 26, nameIndex := 108, descriptorIndex := 109, attributes := #[] }, { accessFlags := 25, nameIndex := 294, descriptorIndex := 25, attributes := #[] }])
  fields := #[{ name := "U", type := (.object "jdk/internal/misc/Unsafe"), accessFlags := 24, slot := 0, constantValue := 0 }, { name := "BIG_ENDIAN", type := .boolean, accessFlags := 26, slot := 1, constantValue := 0 }, { name := "LOG2_ARRAY_BOOLEAN_INDEX_SCALE", type := .int, accessFlags := 25, slot := 2, constantValue := 0 }, { name := "LOG2_ARRAY_BYTE_INDEX_SCALE", type := .int, accessFlags := 25, slot := 3, constantValue := 0 }, { name := "LOG2_ARRAY_CHAR_INDEX_SCALE", type := .int, accessFlags := 25, slot := 4, constantValue := 0 }, { name := "LOG2_ARRAY_SHORT_INDEX_SCALE", type := .int, accessFlags := 25, slot := 5, constantValue := 0 }, { name := "LOG2_ARRAY_INT_INDEX_SCALE", type := .int, accessFlags := 25, slot := 6, constantValue := 0 }, { name := "LOG2_ARRAY_LONG_INDEX_SCALE", type := .int, accessFlags := 25, slot := 7, constantValue := 0 }, { name := "LOG2_ARRAY_FLOAT_INDEX_SCALE", type := .int, accessFlags := 25, slot := 8, constantValue := 0 }, { name := "LOG2_ARRAY_DOUBLE_INDEX_SCALE", type := .int, accessFlags := 25, slot := 9, constantValue := 0 }, { name := "LOG2_BYTE_BIT_SIZE", type := .int, accessFlags := 26, slot := 10, constantValue := 0 }, { name := "T_BOOLEAN", type := .int, accessFlags := 25, slot := 11, constantValue := 0 }, { name := "T_CHAR", type := .int, accessFlags := 25, slot := 12, constantValue := 0 }, { name := "T_FLOAT", type := .int, accessFlags := 25, slot := 13, constantValue := 0 }, { name := "T_DOUBLE", type := .int, accessFlags := 25, slot := 14, constantValue := 0 }, { name := "T_BYTE", type := .int, accessFlags := 25, slot := 15, constantValue := 0 }, { name := "T_SHORT", type := .int, accessFlags := 25, slot := 16, constantValue := 0 }, { name := "T_INT", type := .int, accessFlags := 25, slot := 17, constantValue := 0 }, { name := "T_LONG", type := .int, accessFlags := 25, slot := 18, constantValue := 0 }, { name := "JLA", type := (.object "jdk/internal/access/JavaLangAccess"), accessFlags := 26, slot := 19, constantValue := 0 }, { name := "SOFT_MAX_ARRAY_LENGTH", type := .int, accessFlags := 25, slot := 20, constantValue := 0 }]
  methods := #[k26m0, k26m1]
  instanceTypes := #[]
  staticTypes := #[(.object "jdk/internal/misc/Unsafe"), .boolean, .int, .int, .int, .int, .int, .int, .int, .int, .int, .int, .int, .int, .int, .int, .int, .int, .int, (.object "jdk/internal/access/JavaLangAccess"), .int]
  resolved := Array.replicate 378 none
  statics := none }

def pool27 : Array CpInfo := pool [(1, .class_ 2), (0, u "java/lang/Cloneable"), (0, .class_ 4), (0, u "java/lang/Object")] 2

/-- java/lang/Cloneable -/
def k27 : Class := { plain "java/lang/Cloneable" (some 0) with
  accessFlags := 1537
  interfaces := #[]
  cf := some (fileOf pool27 1 #[] #[] 1537 3 #[] #[])
  fields := #[]
  methods := #[]
  instanceTypes := #[]
  staticTypes := #[]
  resolved := Array.replicate 7 none
  statics := none }

def pool28 : Array CpInfo := pool [(4, .class_ 6), (1, u "java/lang/Object"), (0, u "<init>"), (0, u "()V"), (5, .class_ 16), (1, u "java/lang/StringLatin1"), (104, u "$assertionsDisabled"), (0, u "Z"), (98, .class_ 223), (1, u "java/lang/StringLatin1$LinesSpliterator"), (166, .class_ 391), (0, u "java/lang/StringLatin1$CharsSpliterator")] 3

def k28m0 : Method := { name := "<init>", desc := "()V", sig := { parameters := [], returnType := none }, accessFlags := 0, code := none }
/-- java/lang/StringLatin1 -/
def k28 : Class := { plain "java/lang/StringLatin1" (some 0) with
  accessFlags := 48
  interfaces := #[]
  cf := some (fileOf pool28 14 #[.nestMembers #[390, 221]] #[{ accessFlags := 0, nameIndex := 7, descriptorIndex := 8, attributes := #[] }] 48 4 #[] #[{ accessFlags := 4120, nameIndex := 121, descriptorIndex := 122, attributes := #[] }])
  fields := #[{ name := "$assertionsDisabled", type := .boolean, accessFlags := 4120, slot := 0, constantValue := 0 }]
  methods := #[k28m0]
  instanceTypes := #[]
  staticTypes := #[.boolean]
  resolved := Array.replicate 395 none
  statics := none }

def pool29 : Array CpInfo := pool [(2, .class_ 4), (1, u "java/lang/Object"), (0, u "<init>"), (0, u "()V"), (17, .class_ 26), (1, u "jdk/internal/util/Preconditions"), (28, .class_ 56), (0, u "jdk/internal/util/Preconditions$4"), (57, .class_ 115), (0, u "jdk/internal/util/Preconditions$1"), (7, u "SIOOBE_FORMATTER"), (0, u "Ljava/util/function/BiFunction;"), (0, .class_ 126), (0, u "jdk/internal/util/Preconditions$2"), (3, u "AIOOBE_FORMATTER"), (0, .class_ 132), (0, u "jdk/internal/util/Preconditions$3"), (3, u "IOOBE_FORMATTER")] 57

def k29m0 : Method := { name := "<init>", desc := "()V", sig := { parameters := [], returnType := none }, accessFlags := 1, code := none }
/-- jdk/internal/util/Preconditions -/
def k29 : Class := { plain "jdk/internal/util/Preconditions" (some 0) with
  accessFlags := 33
  interfaces := #[]
  cf := some (fileOf pool29 24 #[.nestMembers #[55, 131, 125, 114]] #[{ accessFlags := 1, nameIndex := 5, descriptorIndex := 6, attributes := #[] }] 33 2 #[] #[{ accessFlags := 25, nameIndex := 123, descriptorIndex := 124, attributes := #[] }, { accessFlags := 25, nameIndex := 130, descriptorIndex := 124, attributes := #[] }, { accessFlags := 25, nameIndex := 136, descriptorIndex := 124, attributes := #[] }])
  fields := #[{ name := "SIOOBE_FORMATTER", type := (.object "java/util/function/BiFunction"), accessFlags := 25, slot := 0, constantValue := 0 }, { name := "AIOOBE_FORMATTER", type := (.object "java/util/function/BiFunction"), accessFlags := 25, slot := 1, constantValue := 0 }, { name := "IOOBE_FORMATTER", type := (.object "java/util/function/BiFunction"), accessFlags := 25, slot := 2, constantValue := 0 }]
  methods := #[k29m0]
  instanceTypes := #[]
  staticTypes := #[(.object "java/util/function/BiFunction"), (.object "java/util/function/BiFunction"), (.object "java/util/function/BiFunction")]
  resolved := Array.replicate 194 none
  statics := some 5 }

def pool30 : Array CpInfo := pool [(2, .class_ 4), (1, u "java/lang/Object"), (0, u "<init>"), (0, u "()V"), (12, .class_ 20), (0, u "java/util/Collections"), (63, u "r"), (0, u "Ljava/util/Random;"), (80, .class_ 167), (0, u "java/util/Collections$UnmodifiableCollection"), (6, .class_ 175), (0, u "java/util/Collections$UnmodifiableSequencedCollection"), (6, .class_ 183), (0, u "java/util/Collections$UnmodifiableSet"), (6, .class_ 191), (0, u "java/util/Collections$UnmodifiableSequencedSet"), (6, .class_ 199), (0, u "java/util/Collections$UnmodifiableSortedSet"), (6, .class_ 207), (0, u "java/util/Collections$UnmodifiableNavigableSet"), (4, .class_ 213), (0, u "java/util/Collections$UnmodifiableList"), (1, .class_ 216), (0, u "java/util/Collections$UnmodifiableRandomAccessList"), (6, .class_ 224), (0, u "java/util/Collections$UnmodifiableMap"), (6, .class_ 232), (0, u "java/util/Collections$UnmodifiableSequencedMap"), (4, .class_ 238), (0, u "java/util/Collections$UnmodifiableSortedMap"), (6, .class_ 246), (0, u "java/util/Collections$UnmodifiableNavigableMap"), (3, .class_ 251), (0, u "java/util/Collections$SynchronizedCollection"), (4, .class_ 257), (0, u "java/util/Collections$SynchronizedSet"), (4, .class_ 263), (0, u "java/util/Collections$SynchronizedSortedSet"), (1, .class_ 266), (0, u "java/util/Collections$SynchronizedNavigableSet"), (1, .class_ 269), (0, u "java/util/Collections$SynchronizedRandomAccessList"), (1, .class_ 272), (0, u "java/util/Collections$SynchronizedList"), (5, .class_ 279), (0, u "java/util/Collections$SynchronizedMap"), (1, .class_ 282), (0, u "java/util/Collections$SynchronizedSortedMap"), (1, .class_ 285), (0, u "java/util/Collections$SynchronizedNavigableMap"), (1, .class_ 288), (0, u "java/util/Collections$CheckedCollection"), (11, .class_ 301), (0, u "java/util/Collections$CheckedQueue"), (3, .class_ 306), (0, u "java/util/Collections$CheckedSet"), (3, .class_ 311), (0, u "java/util/Collections$CheckedSortedSet"), (3, .class_ 316), (0, u "java/util/Collections$CheckedNavigableSet"), (3, .class_ 321), (0, u "java/util/Collections$CheckedRandomAccessList"), (3, .class_ 326), (0, u "java/util/Collections$CheckedList"), (1, .class_ 329), (0, u "java/util/Collections$CheckedMap"), (3, .class_ 334), (0, u "java/util/Collections$CheckedSortedMap"), (3, .class_ 339), (0, u "java/util/Collections$CheckedNavigableMap"), (4, .class_ 346), (1, u "java/util/Collections$EmptyIterator"), (3, .class_ 352), (1, u "java/util/Collections$EmptyListIterator"), (2, .class_ 357), (1, u "java/util/Collections$EmptyEnumeration"), (4, u "EMPTY_SET"), (0, u "Ljava/util/Set;"), (6, u "EMPTY_LIST"), (0, u "Ljava/util/List;"), (2, u "EMPTY_MAP"), (0, u "Ljava/util/Map;"), (4, .class_ 381), (0, u "java/util/Collections$SingletonSet"), (2, .class_ 385), (0, u "java/util/Collections$1"), (1, .class_ 388), (0, u "java/util/Collections$2"), (1, .class_ 391), (0, u "java/util/Collections$SingletonList"), (1, .class_ 394), (0, u "java/util/Collections$SingletonMap"), (22, .class_ 418), (0, u "java/util/Collections$CopiesList"), (4, .class_ 425), (1, u "java/util/Collections$ReverseComparator"), (8, .class_ 435), (0, u "java/util/Collections$ReverseComparator2"), (6, .class_ 443), (0, u "java/util/Collections$3"), (25, .class_ 470), (0, u "java/util/Collections$SetFromMap"), (2, .class_ 474), (0, u "java/util/Collections$SequencedSetFromMap"), (3, .class_ 479), (0, u "java/util/Collections$AsLIFOQueue"), (11, .class_ 492), (0, u "java/util/Collections$EmptySet"), (1, .class_ 495), (0, u "java/util/Collections$EmptyList"), (1, .class_ 498), (0, u "java/util/Collections$EmptyMap"), (1, u "BINARYSEARCH_THRESHOLD"), (0, u "I"), (2, u "REVERSE_THRESHOLD"), (1, u "SHUFFLE_THRESHOLD"), (1, u "FILL_THRESHOLD"), (1, u "ROTATE_THRESHOLD"), (1, u "COPY_THRESHOLD"), (1, u "REPLACEALL_THRESHOLD"), (1, u "INDEXOFSUBLIST_THRESHOLD"), (333, .class_ 851), (0, u "java/util/Collections$CheckedMap$CheckedEntrySet"), (0, .class_ 853), (0, u "java/util/Collections$CheckedMap$CheckedEntrySet$CheckedEntry"), (0, .class_ 855), (0, u "java/util/Collections$CheckedMap$CheckedEntrySet$1"), (0, .class_ 857), (0, u "java/util/Collections$CheckedList$1"), (0, .class_ 859), (0, u "java/util/Collections$CheckedCollection$1"), (0, .class_ 861), (0, u "java/util/Collections$UnmodifiableNavigableMap$EmptyNavigableMap"), (0, .class_ 863), (0, u "java/util/Collections$UnmodifiableMap$UnmodifiableEntrySet"), (0, .class_ 865), (0, u "java/util/Collections$UnmodifiableMap$UnmodifiableEntrySet$UnmodifiableEntry"), (0, .class_ 867), (0, u "java/util/Collections$UnmodifiableMap$UnmodifiableEntrySet$UnmodifiableEntrySetSpliterator"), (0, .class_ 869), (0, u "java/util/Collections$UnmodifiableMap$UnmodifiableEntrySet$1"), (0, .class_ 871), (0, u "java/util/Collections$UnmodifiableList$1"), (0, .class_ 873), (0, u "java/util/Collections$UnmodifiableNavigableSet$EmptyNavigableSet"), (0, .class_ 875), (0, u "java/util/Collections$UnmodifiableCollection$1")] 57

def k30m0 : Method := { name := "<init>", desc := "()V", sig := { parameters := [], returnType := none }, accessFlags := 2, code := none }
/-- java/util/Collections -/
def k30 : Class := { plain "java/util/Collections" (some 0) with
  accessFlags := 33
  interfaces := #[]
  cf := some (fileOf pool30 19 #[.nestMembers #[478, 473, 469, 434, 423, 417, 393, 390, 380, 497, 494, 491, 355, 350, 344, 338, 333, 328, 850, 852, 854, 320, 325, 856, 315, 310, 305, 300, 287, 858, 284, 281, 278, 268, 271, 265, 262, 256, 250, 245, 860, 237, 231, 223, 862, 864, 866, 868, 215, 212, 870, 206, 872, 198, 190, 182, 174, 166, 874, 442, 387, 384]] #[{ accessFlags := 2, nameIndex := 5, descriptorIndex := 6, attributes := #[] }] 33 2 #[] #[{ accessFlags := 26, nameIndex := 500, descriptorIndex := 501, attributes := #[] }, { accessFlags := 26, nameIndex := 504, descriptorIndex := 501, attributes := #[] }, { accessFlags := 26, nameIndex := 506, descriptorIndex := 501, attributes := #[] }, { accessFlags := 26, nameIndex := 508, descriptorIndex := 501, attributes := #[] }, { accessFlags := 26, nameIndex := 510, descriptorIndex := 501, attributes := #[] }, { accessFlags := 26, nameIndex := 512, descriptorIndex := 501, attributes := #[] }, { accessFlags := 26, nameIndex := 514, descriptorIndex := 501, attributes := #[] }, { accessFlags := 26, nameIndex := 516, descriptorIndex := 501, attributes := #[] }, { accessFlags := 10, nameIndex := 84, descriptorIndex := 85, attributes := #[] }, { accessFlags := 25, nameIndex := 362, descriptorIndex := 363, attributes := #[] }, { accessFlags := 25, nameIndex := 370, descriptorIndex := 371, attributes := #[] }, { accessFlags := 25, nameIndex := 374, descriptorIndex := 375, attributes := #[] }])
  fields := #[{ name := "BINARYSEARCH_THRESHOLD", type := .int, accessFlags := 26, slot := 0, constantValue := 0 }, { name := "REVERSE_THRESHOLD", type := .int, accessFlags := 26, slot := 1, constantValue := 0 }, { name := "SHUFFLE_THRESHOLD", type := .int, accessFlags := 26, slot := 2, constantValue := 0 }, { name := "FILL_THRESHOLD", type := .int, accessFlags := 26, slot := 3, constantValue := 0 }, { name := "ROTATE_THRESHOLD", type := .int, accessFlags := 26, slot := 4, constantValue := 0 }, { name := "COPY_THRESHOLD", type := .int, accessFlags := 26, slot := 5, constantValue := 0 }, { name := "REPLACEALL_THRESHOLD", type := .int, accessFlags := 26, slot := 6, constantValue := 0 }, { name := "INDEXOFSUBLIST_THRESHOLD", type := .int, accessFlags := 26, slot := 7, constantValue := 0 }, { name := "r", type := (.object "java/util/Random"), accessFlags := 10, slot := 8, constantValue := 0 }, { name := "EMPTY_SET", type := (.object "java/util/Set"), accessFlags := 25, slot := 9, constantValue := 0 }, { name := "EMPTY_LIST", type := (.object "java/util/List"), accessFlags := 25, slot := 10, constantValue := 0 }, { name := "EMPTY_MAP", type := (.object "java/util/Map"), accessFlags := 25, slot := 11, constantValue := 0 }]
  methods := #[k30m0]
  instanceTypes := #[]
  staticTypes := #[.int, .int, .int, .int, .int, .int, .int, .int, (.object "java/util/Random"), (.object "java/util/Set"), (.object "java/util/List"), (.object "java/util/Map")]
  resolved := Array.replicate 933 none
  statics := some 6 }

def pool31 : Array CpInfo := pool [(8, .class_ 10), (1, u "java/lang/Iterable"), (24, .class_ 36), (0, u "java/lang/Object")] 25

/-- java/lang/Iterable -/
def k31 : Class := { plain "java/lang/Iterable" (some 0) with
  accessFlags := 1537
  interfaces := #[]
  cf := some (fileOf pool31 8 #[] #[] 1537 35 #[] #[])
  fields := #[]
  methods := #[]
  instanceTypes := #[]
  staticTypes := #[]
  resolved := Array.replicate 62 none
  statics := none }

def pool32 : Array CpInfo := pool [(10, .class_ 12), (1, u "java/util/Collection"), (47, .class_ 61), (0, u "java/lang/Object"), (0, .class_ 63), (0, u "java/lang/Iterable")] 51

/-- java/util/Collection -/
def k32 : Class := { plain "java/util/Collection" (some 0) with
  accessFlags := 1537
  interfaces := #[31]
  cf := some (fileOf pool32 10 #[] #[] 1537 60 #[62] #[])
  fields := #[]
  methods := #[]
  instanceTypes := #[]
  staticTypes := #[]
  resolved := Array.replicate 115 none
  statics := none }

def pool33 : Array CpInfo := pool [(2, .class_ 4), (1, u "java/lang/Object"), (0, u "<init>"), (0, u "()V"), (1, .class_ 10), (1, u "java/util/AbstractCollection"), (66, .class_ 78), (0, u "java/util/Collection")] 81

def k33m0 : Method := { name := "<init>", desc := "()V", sig := { parameters := [], returnType := none }, accessFlags := 4, code := none }
/-- java/util/AbstractCollection -/
def k33 : Class := { plain "java/util/AbstractCollection" (some 0) with
  accessFlags := 1057
  interfaces := #[32]
  cf := some (fileOf pool33 8 #[] #[{ accessFlags := 4, nameIndex := 5, descriptorIndex := 6, attributes := #[] }] 1057 2 #[77] #[])
  fields := #[]
  methods := #[k33m0]
  instanceTypes := #[]
  staticTypes := #[]
  resolved := Array.replicate 160 none
  statics := none }

def pool34 : Array CpInfo := pool [(8, .class_ 10), (1, u "java/util/SequencedCollection"), (15, .class_ 27), (0, u "java/lang/Object"), (0, .class_ 29), (0, u "java/util/Collection")] 27

/-- java/util/SequencedCollection -/
def k34 : Class := { plain "java/util/SequencedCollection" (some 0) with
  accessFlags := 1537
  interfaces := #[32]
  cf := some (fileOf pool34 8 #[] #[] 1537 26 #[28] #[])
  fields := #[]
  methods := #[]
  instanceTypes := #[]
  staticTypes := #[]
  resolved := Array.replicate 57 none
  statics := none }

def pool35 : Array CpInfo := pool [(8, .class_ 10), (1, u "java/util/List"), (92, .class_ 104), (0, u "java/lang/Object"), (15, .class_ 121), (0, u "java/util/SequencedCollection")] 129

/-- java/util/List -/
def k35 : Class := { plain "java/util/List" (some 0) with
  accessFlags := 1537
  interfaces := #[34]
  cf := some (fileOf pool35 8 #[] #[] 1537 103 #[120] #[])
  fields := #[]
  methods := #[]
  instanceTypes := #[]
  staticTypes := #[]
  resolved := Array.replicate 251 none
  statics := none }

def pool36 : Array CpInfo := pool [(2, .class_ 4), (1, u "java/util/AbstractCollection"), (0, u "<init>"), (0, u "()V"), (1, .class_ 10), (1, u "java/util/AbstractList"), (0, u "modCount"), (0, u "I"), (64, .class_ 78), (0, u "java/util/AbstractList$Itr"), (3, .class_ 83), (0, u "java/util/AbstractList$ListItr"), (9, .class_ 94), (0, u "java/util/AbstractList$RandomAccessSubList"), (3, .class_ 99), (0, u "java/util/AbstractList$SubList"), (33, .class_ 134), (0, u "java/util/List"), (73, .class_ 209), (0, u "java/util/AbstractList$SubList$1"), (0, .class_ 211), (0, u "java/util/AbstractList$RandomAccessSpliterator")] 6

def k36m0 : Method := { name := "<init>", desc := "()V", sig := { parameters := [], returnType := none }, accessFlags := 4, code := none }
/-- java/util/AbstractList -/
def k36 : Class := { plain "java/util/AbstractList" (some 33) with
  accessFlags := 1057
  interfaces := #[35]
  cf := some (fileOf pool36 8 #[.nestMembers #[93, 98, 208, 210, 82, 77]] #[{ accessFlags := 4, nameIndex := 5, descriptorIndex := 6, attributes := #[] }] 1057 2 #[133] #[{ accessFlags := 132, nameIndex := 11, descriptorIndex := 12, attributes := #[] }])
  fields := #[{ name := "modCount", type := .int, accessFlags := 132, slot := 0, constantValue := 0 }]
  methods := #[k36m0]
  instanceTypes := #[.int]
  staticTypes := #[]
  resolved := Array.replicate 218 none
  statics := none }

def pool37 : Array CpInfo := pool [(1, .class_ 2), (0, u "java/util/RandomAccess"), (0, .class_ 4), (0, u "java/lang/Object")] 2

/-- java/util/RandomAccess -/
def k37 : Class := { plain "java/util/RandomAccess" (some 0) with
  accessFlags := 1537
  interfaces := #[]
  cf := some (fileOf pool37 1 #[] #[] 1537 3 #[] #[])
  fields := #[]
  methods := #[]
  instanceTypes := #[]
  staticTypes := #[]
  resolved := Array.replicate 7 none
  statics := none }

def pool38 : Array CpInfo := pool [(2, .class_ 4), (1, u "java/util/AbstractList"), (0, u "<init>"), (0, u "()V"), (1, .class_ 10), (1, u "java/util/Collections"), (54, .class_ 66), (0, u "java/util/Collections$EmptyList"), (0, .class_ 68), (0, u "java/util/RandomAccess"), (0, .class_ 70), (0, u "java/io/Serializable"), (0, u "serialVersionUID"), (0, u "J")] 77

def k38m0 : Method := { name := "<init>", desc := "()V", sig := { parameters := [], returnType := none }, accessFlags := 2, code := none }
/-- java/util/Collections$EmptyList -/
def k38 : Class := { plain "java/util/Collections$EmptyList" (some 36) with
  accessFlags := 32
  interfaces := #[37, 2]
  cf := some (fileOf pool38 65 #[.nestHost 8] #[{ accessFlags := 2, nameIndex := 5, descriptorIndex := 6, attributes := #[] }] 32 2 #[67, 69] #[{ accessFlags := 26, nameIndex := 71, descriptorIndex := 72, attributes := #[] }])
  fields := #[{ name := "serialVersionUID", type := .long, accessFlags := 26, slot := 0, constantValue := 0 }]
  methods := #[k38m0]
  instanceTypes := #[.int]
  staticTypes := #[.long]
  resolved := Array.replicate 150 none
  statics := none }

def pool39 : Array CpInfo := pool [(2, .class_ 4), (1, u "java/lang/StackTraceElement"), (0, u "<init>"), (2, .class_ 10), (1, u "java/lang/Object"), (0, u "()V"), (2, u "format"), (0, u "B"), (2, u "classLoaderName"), (0, u "Ljava/lang/String;"), (2, u "moduleName"), (2, u "moduleVersion"), (12, u "declaringClass"), (4, u "methodName"), (2, u "fileName"), (2, u "lineNumber"), (0, u "I"), (65, u "declaringClassObject"), (0, u "Ljava/lang/Class;"), (33, .class_ 153), (1, u "java/lang/StackTraceElement$HashedModules"), (17, .class_ 172), (0, u "java/io/Serializable"), (0, u "NATIVE_METHOD"), (1, u "UNKNOWN_SOURCE"), (2, u "BUILTIN_CLASS_LOADER"), (1, u "JDK_NON_UPGRADEABLE_MODULE"), (1, u "serialVersionUID"), (0, u "J")] 51

def k39m0 : Method := { name := "<init>", desc := "()V", sig := { parameters := [], returnType := none }, accessFlags := 2, code := none }
/-- java/lang/StackTraceElement -/
def k39 : Class := { plain "java/lang/StackTraceElement" (some 0) with
  accessFlags := 49
  interfaces := #[2]
  cf := some (fileOf pool39 2 #[.nestMembers #[151]] #[{ accessFlags := 2, nameIndex := 5, descriptorIndex := 11, attributes := #[] }] 49 8 #[171] #[{ accessFlags := 26, nameIndex := 173, descriptorIndex := 19, attributes := #[] }, { accessFlags := 26, nameIndex := 175, descriptorIndex := 19, attributes := #[] }, { accessFlags := 130, nameIndex := 116, descriptorIndex := 117, attributes := #[] }, { accessFlags := 2, nameIndex := 18, descriptorIndex := 19, attributes := #[] }, { accessFlags := 2, nameIndex := 22, descriptorIndex := 19, attributes := #[] }, { accessFlags := 2, nameIndex := 25, descriptorIndex := 19, attributes := #[] }, { accessFlags := 2, nameIndex := 38, descriptorIndex := 19, attributes := #[] }, { accessFlags := 2, nameIndex := 43, descriptorIndex := 19, attributes := #[] }, { accessFlags := 2, nameIndex := 46, descriptorIndex := 19, attributes := #[] }, { accessFlags := 2, nameIndex := 49, descriptorIndex := 50, attributes := #[] }, { accessFlags := 2, nameIndex := 14, descriptorIndex := 15, attributes := #[] }, { accessFlags := 26, nameIndex := 178, descriptorIndex := 15, attributes := #[] }, { accessFlags := 26, nameIndex := 180, descriptorIndex := 15, attributes := #[] }, { accessFlags := 26, nameIndex := 182, descriptorIndex := 183, attributes := #[] }])
  fields := #[{ name := "NATIVE_METHOD", type := (.object "java/lang/String"), accessFlags := 26, slot := 0, constantValue := 0 }, { name := "UNKNOWN_SOURCE", type := (.object "java/lang/String"), accessFlags := 26, slot := 1, constantValue := 0 }, { name := "declaringClassObject", type := (.object "java/lang/Class"), accessFlags := 130, slot := 0, constantValue := 0 }, { name := "classLoaderName", type := (.object "java/lang/String"), accessFlags := 2, slot := 1, constantValue := 0 }, { name := "moduleName", type := (.object "java/lang/String"), accessFlags := 2, slot := 2, constantValue := 0 }, { name := "moduleVersion", type := (.object "java/lang/String"), accessFlags := 2, slot := 3, constantValue := 0 }, { name := "declaringClass", type := (.object "java/lang/String"), accessFlags := 2, slot := 4, constantValue := 0 }, { name := "methodName", type := (.object "java/lang/String"), accessFlags := 2, slot := 5, constantValue := 0 }, { name := "fileName", type := (.object "java/lang/String"), accessFlags := 2, slot := 6, constantValue := 0 }, { name := "lineNumber", type := .int, accessFlags := 2, slot := 7, constantValue := 0 }, { name := "format", type := .byte, accessFlags := 2, slot := 8, constantValue := 0 }, { name := "BUILTIN_CLASS_LOADER", type := .byte, accessFlags := 26, slot := 2, constantValue := 0 }, { name := "JDK_NON_UPGRADEABLE_MODULE", type := .byte, accessFlags := 26, slot := 3, constantValue := 0 }, { name := "serialVersionUID", type := .long, accessFlags := 26, slot := 4, constantValue := 0 }]
  methods := #[k39m0]
  instanceTypes := #[(.object "java/lang/Class"), (.object "java/lang/String"), (.object "java/lang/String"), (.object "java/lang/String"), (.object "java/lang/String"), (.object "java/lang/String"), (.object "java/lang/String"), .int, .byte]
  staticTypes := #[(.object "java/lang/String"), (.object "java/lang/String"), .byte, .byte, .long]
  resolved := Array.replicate 235 none
  statics := none }

/-- the primitive byte -/
def k40 : Class := { plain "byte" none with kind := .primitive 'B', accessFlags := 0x411 }
/-- [B -/
def k41 : Class := { plain "[B" (some 0) with kind := .array 40 .byte, interfaces := #[27, 2], accessFlags := 1041 }

/-- the primitive char -/
def k42 : Class := { plain "char" none with kind := .primitive 'C', accessFlags := 0x411 }
/-- [C -/
def k43 : Class := { plain "[C" (some 0) with kind := .array 42 .char, interfaces := #[27, 2], accessFlags := 1041 }

/-- the primitive int -/
def k44 : Class := { plain "int" none with kind := .primitive 'I', accessFlags := 0x411 }
/-- [I -/
def k45 : Class := { plain "[I" (some 0) with kind := .array 44 .int, interfaces := #[27, 2], accessFlags := 1041 }

/-- [Ljava/lang/Object; -/
def k46 : Class := { plain "[Ljava/lang/Object;" (some 0) with kind := .array 0 (.object "java/lang/Object"), interfaces := #[27, 2], accessFlags := 1041 }

/-- [Ljava/lang/StackTraceElement; -/
def k47 : Class := { plain "[Ljava/lang/StackTraceElement;" (some 0) with kind := .array 39 (.object "java/lang/StackTraceElement"), interfaces := #[27, 2], accessFlags := 1041 }

/-- [Ljava/lang/Throwable; -/
def k48 : Class := { plain "[Ljava/lang/Throwable;" (some 0) with kind := .array 9 (.object "java/lang/Throwable"), interfaces := #[27, 2], accessFlags := 1041 }

def heap : Heap := #[{ cls := 7, slots := #[.long 0, .int 1, .null, .int 0, .null, .int 0, .int 0], vm := .statics 7 },
  { cls := 9, slots := #[.long 0, .ref 10, .ref 11, .null, .null, .null, .null, .ref 12, .int 1], vm := .statics 9 },
  { cls := 20, slots := #[.ref 9, .null, .null, .null], vm := .statics 20 },
  { cls := 23, slots := #[.ref 13], vm := .statics 23 },
  { cls := 25, slots := #[.int 0, .int 0, .null, .null, .ref 8, .ref 7, .int 0, .int 0, .long 0], vm := .statics 25 },
  { cls := 29, slots := #[.null, .null, .null], vm := .statics 29 },
  { cls := 30, slots := #[.int 0, .int 0, .int 0, .int 0, .int 0, .int 0, .int 0, .int 0, .null, .null, .ref 11, .null], vm := .statics 30 },
  { cls := 41, slots := #[.int 48, .int 49, .int 50, .int 51, .int 52, .int 53, .int 54, .int 55, .int 56, .int 57, .int 48, .int 49, .int 50, .int 51, .int 52, .int 53, .int 54, .int 55, .int 56, .int 57, .int 48, .int 49, .int 50, .int 51, .int 52, .int 53, .int 54, .int 55, .int 56, .int 57, .int 48, .int 49, .int 50, .int 51, .int 52, .int 53, .int 54, .int 55, .int 56, .int 57, .int 48, .int 49, .int 50, .int 51, .int 52, .int 53, .int 54, .int 55, .int 56, .int 57, .int 48, .int 49, .int 50, .int 51, .int 52, .int 53, .int 54, .int 55, .int 56, .int 57, .int 48, .int 49, .int 50, .int 51, .int 52, .int 53, .int 54, .int 55, .int 56, .int 57, .int 48, .int 49, .int 50, .int 51, .int 52, .int 53, .int 54, .int 55, .int 56, .int 57, .int 48, .int 49, .int 50, .int 51, .int 52, .int 53, .int 54, .int 55, .int 56, .int 57, .int 48, .int 49, .int 50, .int 51, .int 52, .int 53, .int 54, .int 55, .int 56, .int 57], vm := .none },
  { cls := 41, slots := #[.int 48, .int 48, .int 48, .int 48, .int 48, .int 48, .int 48, .int 48, .int 48, .int 48, .int 49, .int 49, .int 49, .int 49, .int 49, .int 49, .int 49, .int 49, .int 49, .int 49, .int 50, .int 50, .int 50, .int 50, .int 50, .int 50, .int 50, .int 50, .int 50, .int 50, .int 51, .int 51, .int 51, .int 51, .int 51, .int 51, .int 51, .int 51, .int 51, .int 51, .int 52, .int 52, .int 52, .int 52, .int 52, .int 52, .int 52, .int 52, .int 52, .int 52, .int 53, .int 53, .int 53, .int 53, .int 53, .int 53, .int 53, .int 53, .int 53, .int 53, .int 54, .int 54, .int 54, .int 54, .int 54, .int 54, .int 54, .int 54, .int 54, .int 54, .int 55, .int 55, .int 55, .int 55, .int 55, .int 55, .int 55, .int 55, .int 55, .int 55, .int 56, .int 56, .int 56, .int 56, .int 56, .int 56, .int 56, .int 56, .int 56, .int 56, .int 57, .int 57, .int 57, .int 57, .int 57, .int 57, .int 57, .int 57, .int 57, .int 57], vm := .none },
  { cls := 20, slots := #[.null, .int 0, .int 0], vm := .none },
  { cls := 47, slots := #[], vm := .none },
  { cls := 38, slots := #[.int 0], vm := .none },
  { cls := 48, slots := #[], vm := .none },
  { cls := 23, slots := #[.int 0, .int 0], vm := .none }]
def classes : Array Class := #[k0, k1, k2, k3, k4, k5, k6, k7, k8, k9, k10, k11, k12, k13, k14, k15, k16, k17, k18, k19, k20, k21, k22, k23, k24, k25, k26, k27, k28, k29, k30, k31, k32, k33, k34, k35, k36, k37, k38, k39, k40, k41, k42, k43, k44, k45, k46, k47, k48]
def interned : List (Array UInt16 × Addr) := []
def slotsUsed : Nat := 251
def theMethod : MethodId := ⟨1, 1⟩
def args0 : Array Value := #[.int 5, .int 5, .int 5, .int 5]
def aboutOver (below : List Frame) : State where
  vm := { classes := classes, interned := interned.toArray }
  heap := heap
  slotsUsed := slotsUsed
  threads := #[{ frames := .invoking theMethod args0 :: below }]
def below0 : List Frame := [.native { method := ⟨0, 0⟩, args := #[] }]
def about1 : State := aboutOver below0
def p0 : Program := .bare "" "" ""
def e0 : Env := launch0.env 0 0 0
theorem w_frames : about1.frames = Frame.invoking theMethod args0 :: below0 := rfl
set_option maxRecDepth 65536 in
theorem w_args : argsFit about1.vm theMethod args0 = true := by decide +kernel
set_option maxRecDepth 65536 in
theorem w_heap : heapFits about1 = true := by decide +kernel
set_option maxRecDepth 65536 in
theorem w_runnable : about1.curStatus? = some .runnable := by decide +kernel
set_option maxRecDepth 65536 in
theorem w_alone : about1.alone = true := by decide +kernel
set_option maxRecDepth 65536 in
theorem w_named : about1.methodNamed? x = some theMethod := by decide +kernel
set_option maxRecDepth 65536 in
theorem w_hears : about1.hears theMethod below0 = true := by decide +kernel
set_option maxRecDepth 65536 in
theorem w_ripe : about1.ripe theMethod args0 below0 = true := by decide +kernel
theorem w_running : about1.status = .running := rfl
set_option maxRecDepth 65536 in
theorem w_room : about1.hasRoom e0.platform room_1 = true :=
  launch0.hasRoom_least _ room_1 (by decide +kernel) (by decide +kernel) (by decide +kernel) (by decide +kernel) (by decide +kernel) (by decide +kernel)
theorem allAtoms_all (ts : List Jvm.Cond) (a : Array Jvm.Value) (st : Jvm.State) : (allAtoms ts).before a st = ts.all (fun c => c.before a st) := by
  induction ts with
  | nil => rfl
  | cons c t ih =>
    show (Jvm.Cond.and c (allAtoms t)).before a st = _
    rw [Jvm.Cond.before_and, ih, List.all_cons]
def words1 : List Jvm.Cond := Jvm.Cond.code x code maxLocals ret :: tables_1
/-- a 'code' word, met by the world's own term for the bytes: nothing is compared byte by byte -/
theorem code_word {y : MethodName} {bytes : ByteArray} {mx : Nat} {rt : Option FieldType} {a : Array Value} {s : State} {m : MethodId} {meth : Method} {c : Code} (h1 : s.methodNamed? y = some m) (h2 : s.vm.method? m = some meth) (h3 : meth.code = some c) (h4 : c.code = bytes)
    (h5 : (c.maxLocals == mx && c.exceptionTable.isEmpty && decide (c.maxStack ≤ mostOperands) && decide (meth.sig.returnType = rt) && !meth.locks && decide (parseMethodDescriptor y.desc = some meth.sig)) = true) : (Jvm.Cond.code y bytes mx rt).before a s = true := by
  simp only [Bool.and_eq_true, beq_iff_eq, Bool.not_eq_true', decide_eq_true_eq] at h5
  obtain ⟨⟨⟨⟨⟨g1, g2⟩, g3⟩, g4⟩, g5⟩, g6⟩ := h5
  simp [Cond.before, Cond.holds, Cond.value, h1, h2, h3, h4, g1, g2, g3, g4, g5, g6]
def isCode : Jvm.Cond → Bool
  | .code _ _ _ _ => true
  | _ => false
theorem all_split {L : List Jvm.Cond} {P : Jvm.Cond → Bool} (h1 : L.all (fun c => isCode c || P c) = true) (h2 : ∀ c ∈ L.filter isCode, P c = true) : L.all P = true := by
  refine List.all_eq_true.mpr fun c hc => ?_
  have h := List.all_eq_true.mp h1 c hc
  rcases Bool.eq_false_or_eq_true (isCode c) with hi | hi
  · exact h2 c (List.mem_filter.mpr ⟨hc, hi⟩)
  · simpa [hi] using h
set_option maxRecDepth 65536 in
theorem w_c0 : (Jvm.Cond.code x code maxLocals ret).before args0 about1 = true := code_word (m := ⟨1, 1⟩) (meth := k1m1) (c := k1c1) (by decide +kernel) rfl rfl rfl (by decide +kernel)
set_option maxRecDepth 65536 in
theorem w_c1 : (Jvm.Cond.code ({ cls := "java/lang/String", name := "<init>", desc := "([C)V" } : Jvm.MethodName) jdk_42_method_3_code (2 : Nat) (Option.none : Option Jvm.ClassFile.FieldType)).before args0 about1 = true := code_word (m := ⟨7, 1⟩) (meth := k7m1) (c := k7c1) (by decide +kernel) rfl rfl rfl (by decide +kernel)
set_option maxRecDepth 65536 in
theorem w_c2 : (Jvm.Cond.code ({ cls := "java/lang/String", name := "<init>", desc := "([CIILjava/lang/Void;)V" } : Jvm.MethodName) jdk_42_method_149_code (6 : Nat) (Option.none : Option Jvm.ClassFile.FieldType)).before args0 about1 = true := code_word (m := ⟨7, 6⟩) (meth := k7m6) (c := k7c6) (by decide +kernel) rfl rfl rfl (by decide +kernel)
set_option maxRecDepth 65536 in
theorem w_c3 : (Jvm.Cond.code ({ cls := "java/lang/Object", name := "<init>", desc := "()V" } : Jvm.MethodName) object_method_1_code (1 : Nat) (Option.none : Option Jvm.ClassFile.FieldType)).before args0 about1 = true := code_word (m := ⟨0, 0⟩) (meth := k0m0) (c := k0c0) (by decide +kernel) rfl rfl rfl (by decide +kernel)
set_option maxRecDepth 65536 in
theorem w_c4 : (Jvm.Cond.code ({ cls := "java/lang/StringUTF16", name := "compress", desc := "([CII)[B" } : Jvm.MethodName) jdk_52_method_16_code (6 : Nat) (Option.some (Jvm.ClassFile.FieldType.array Jvm.ClassFile.FieldType.byte))).before args0 about1 = true := code_word (m := ⟨8, 2⟩) (meth := k8m2) (c := k8c2) (by decide +kernel) rfl rfl rfl (by decide +kernel)
set_option maxRecDepth 65536 in
theorem w_c5 : (Jvm.Cond.code ({ cls := "java/lang/StringUTF16", name := "compress", desc := "([CI[BII)I" } : Jvm.MethodName) jdk_52_method_21_code (7 : Nat) (Option.some Jvm.ClassFile.FieldType.int)).before args0 about1 = true := code_word (m := ⟨8, 3⟩) (meth := k8m3) (c := k8c3) (by decide +kernel) rfl rfl rfl (by decide +kernel)
set_option maxRecDepth 65536 in
theorem w_c6 : (Jvm.Cond.code ({ cls := "java/lang/StringUTF16", name := "coderFromArrayLen", desc := "([BI)B" } : Jvm.MethodName) jdk_52_method_15_code (2 : Nat) (Option.some Jvm.ClassFile.FieldType.byte)).before args0 about1 = true := code_word (m := ⟨8, 1⟩) (meth := k8m1) (c := k8c1) (by decide +kernel) rfl rfl rfl (by decide +kernel)
set_option maxRecDepth 65536 in
theorem w_c7 : (Jvm.Cond.code ({ cls := "com/example/vestwright/vestwright/input/InputException", name := "<init>", desc := "(Ljava/lang/String;Ljava/lang/String;)V" } : Jvm.MethodName) prog_18_method_2_code (3 : Nat) (Option.none : Option Jvm.ClassFile.FieldType)).before args0 about1 = true := code_word (m := ⟨11, 1⟩) (meth := k11m1) (c := k11c1) (by decide +kernel) rfl rfl rfl (by decide +kernel)
set_option maxRecDepth 65536 in
theorem w_c8 : (Jvm.Cond.code ({ cls := "java/lang/StringBuilder", name := "<init>", desc := "()V" } : Jvm.MethodName) jdk_67_method_1_code (1 : Nat) (Option.none : Option Jvm.ClassFile.FieldType)).before args0 about1 = true := code_word (m := ⟨14, 0⟩) (meth := k14m0) (c := k14c0) (by decide +kernel) rfl rfl rfl (by decide +kernel)
set_option maxRecDepth 65536 in
theorem w_c9 : (Jvm.Cond.code ({ cls := "java/lang/AbstractStringBuilder", name := "<init>", desc := "(I)V" } : Jvm.MethodName) jdk_68_method_2_code (2 : Nat) (Option.none : Option Jvm.ClassFile.FieldType)).before args0 about1 = true := code_word (m := ⟨13, 1⟩) (meth := k13m1) (c := k13c1) (by decide +kernel) rfl rfl rfl (by decide +kernel)
set_option maxRecDepth 65536 in
theorem w_c10 : (Jvm.Cond.code ({ cls := "java/lang/StringBuilder", name := "append", desc := "(Ljava/lang/String;)Ljava/lang/StringBuilder;" } : Jvm.MethodName) jdk_67_method_7_code (2 : Nat) (Option.some (Jvm.ClassFile.FieldType.object "java/lang/StringBuilder"))).before args0 about1 = true := code_word (m := ⟨14, 1⟩) (meth := k14m1) (c := k14c1) (by decide +kernel) rfl rfl rfl (by decide +kernel)
set_option maxRecDepth 65536 in
theorem w_c11 : (Jvm.Cond.code ({ cls := "java/lang/AbstractStringBuilder", name := "append", desc := "(Ljava/lang/String;)Ljava/lang/AbstractStringBuilder;" } : Jvm.MethodName) jdk_68_method_22_code (3 : Nat) (Option.some (Jvm.ClassFile.FieldType.object "java/lang/AbstractStringBuilder"))).before args0 about1 = true := code_word (m := ⟨13, 5⟩) (meth := k13m5) (c := k13c5) (by decide +kernel) rfl rfl rfl (by decide +kernel)
set_option maxRecDepth 65536 in
theorem w_c12 : (Jvm.Cond.code ({ cls := "java/lang/String", name := "length", desc := "()I" } : Jvm.MethodName) jdk_42_method_54_code (1 : Nat) (Option.some Jvm.ClassFile.FieldType.int)).before args0 about1 = true := code_word (m := ⟨7, 3⟩) (meth := k7m3) (c := k7c3) (by decide +kernel) rfl rfl rfl (by decide +kernel)
set_option maxRecDepth 65536 in
theorem w_c13 : (Jvm.Cond.code ({ cls := "java/lang/String", name := "coder", desc := "()B" } : Jvm.MethodName) jdk_42_method_152_code (1 : Nat) (Option.some Jvm.ClassFile.FieldType.byte)).before args0 about1 = true := code_word (m := ⟨7, 8⟩) (meth := k7m8) (c := k7c8) (by decide +kernel) rfl rfl rfl (by decide +kernel)
set_option maxRecDepth 65536 in
theorem w_c14 : (Jvm.Cond.code ({ cls := "java/lang/AbstractStringBuilder", name := "ensureCapacityInternal", desc := "(I)V" } : Jvm.MethodName) jdk_68_method_9_code (3 : Nat) (Option.none : Option Jvm.ClassFile.FieldType)).before args0 about1 = true := code_word (m := ⟨13, 3⟩) (meth := k13m3) (c := k13c3) (by decide +kernel) rfl rfl rfl (by decide +kernel)
set_option maxRecDepth 65536 in
theorem w_c15 : (Jvm.Cond.code ({ cls := "java/lang/AbstractStringBuilder", name := "putStringAt", desc := "(ILjava/lang/String;)V" } : Jvm.MethodName) jdk_68_method_73_code (3 : Nat) (Option.none : Option Jvm.ClassFile.FieldType)).before args0 about1 = true := code_word (m := ⟨13, 10⟩) (meth := k13m10) (c := k13c10) (by decide +kernel) rfl rfl rfl (by decide +kernel)
set_option maxRecDepth 65536 in
theorem w_c16 : (Jvm.Cond.code ({ cls := "java/lang/AbstractStringBuilder", name := "inflateIfNeededFor", desc := "(Ljava/lang/String;)V" } : Jvm.MethodName) jdk_68_method_71_code (2 : Nat) (Option.none : Option Jvm.ClassFile.FieldType)).before args0 about1 = true := code_word (m := ⟨13, 9⟩) (meth := k13m9) (c := k13c9) (by decide +kernel) rfl rfl rfl (by decide +kernel)
set_option maxRecDepth 65536 in
theorem w_c17 : (Jvm.Cond.code ({ cls := "java/lang/String", name := "getBytes", desc := "([BIB)V" } : Jvm.MethodName) jdk_42_method_147_code (4 : Nat) (Option.none : Option Jvm.ClassFile.FieldType)).before args0 about1 = true := code_word (m := ⟨7, 5⟩) (meth := k7m5) (c := k7c5) (by decide +kernel) rfl rfl rfl (by decide +kernel)
set_option maxRecDepth 65536 in
theorem w_c18 : (Jvm.Cond.code ({ cls := "java/lang/StringBuilder", name := "toString", desc := "()Ljava/lang/String;" } : Jvm.MethodName) jdk_67_method_42_code (1 : Nat) (Option.some (Jvm.ClassFile.FieldType.object "java/lang/String"))).before args0 about1 = true := code_word (m := ⟨14, 3⟩) (meth := k14m3) (c := k14c3) (by decide +kernel) rfl rfl rfl (by decide +kernel)
set_option maxRecDepth 65536 in
theorem w_c19 : (Jvm.Cond.code ({ cls := "java/lang/String", name := "<init>", desc := "(Ljava/lang/StringBuilder;)V" } : Jvm.MethodName) jdk_42_method_53_code (2 : Nat) (Option.none : Option Jvm.ClassFile.FieldType)).before args0 about1 = true := code_word (m := ⟨7, 2⟩) (meth := k7m2) (c := k7c2) (by decide +kernel) rfl rfl rfl (by decide +kernel)
set_option maxRecDepth 65536 in
theorem w_c20 : (Jvm.Cond.code ({ cls := "java/lang/String", name := "<init>", desc := "(Ljava/lang/AbstractStringBuilder;Ljava/lang/Void;)V" } : Jvm.MethodName) jdk_42_method_150_code (5 : Nat) (Option.none : Option Jvm.ClassFile.FieldType)).before args0 about1 = true := code_word (m := ⟨7, 7⟩) (meth := k7m7) (c := k7c7) (by decide +kernel) rfl rfl rfl (by decide +kernel)
set_option maxRecDepth 65536 in
theorem w_c21 : (Jvm.Cond.code ({ cls := "java/lang/AbstractStringBuilder", name := "getValue", desc := "()[B" } : Jvm.MethodName) jdk_68_method_64_code (1 : Nat) (Option.some (Jvm.ClassFile.FieldType.array Jvm.ClassFile.FieldType.byte))).before args0 about1 = true := code_word (m := ⟨13, 7⟩) (meth := k13m7) (c := k13c7) (by decide +kernel) rfl rfl rfl (by decide +kernel)
set_option maxRecDepth 65536 in
theorem w_c22 : (Jvm.Cond.code ({ cls := "java/lang/StringBuilder", name := "length", desc := "()I" } : Jvm.MethodName) jdk_67_method_93_code (1 : Nat) (Option.some Jvm.ClassFile.FieldType.int)).before args0 about1 = true := code_word (m := ⟨14, 4⟩) (meth := k14m4) (c := k14c4) (by decide +kernel) rfl rfl rfl (by decide +kernel)
set_option maxRecDepth 65536 in
theorem w_c23 : (Jvm.Cond.code ({ cls := "java/lang/AbstractStringBuilder", name := "length", desc := "()I" } : Jvm.MethodName) jdk_68_method_6_code (1 : Nat) (Option.some Jvm.ClassFile.FieldType.int)).before args0 about1 = true := code_word (m := ⟨13, 2⟩) (meth := k13m2) (c := k13c2) (by decide +kernel) rfl rfl rfl (by decide +kernel)
set_option maxRecDepth 65536 in
theorem w_c24 : (Jvm.Cond.code ({ cls := "java/lang/AbstractStringBuilder", name := "isLatin1", desc := "()Z" } : Jvm.MethodName) jdk_68_method_68_code (1 : Nat) (Option.some Jvm.ClassFile.FieldType.boolean)).before args0 about1 = true := code_word (m := ⟨13, 8⟩) (meth := k13m8) (c := k13c8) (by decide +kernel) rfl rfl rfl (by decide +kernel)
set_option maxRecDepth 65536 in
theorem w_c25 : (Jvm.Cond.code ({ cls := "java/util/Arrays", name := "copyOfRange", desc := "([BII)[B" } : Jvm.MethodName) jdk_65_method_132_code (3 : Nat) (Option.some (Jvm.ClassFile.FieldType.array Jvm.ClassFile.FieldType.byte))).before args0 about1 = true := code_word (m := ⟨16, 3⟩) (meth := k16m3) (c := k16c3) (by decide +kernel) rfl rfl rfl (by decide +kernel)
set_option maxRecDepth 65536 in
theorem w_c26 : (Jvm.Cond.code ({ cls := "java/util/Arrays", name := "copyOfRangeByte", desc := "([BII)[B" } : Jvm.MethodName) jdk_65_method_133_code (5 : Nat) (Option.some (Jvm.ClassFile.FieldType.array Jvm.ClassFile.FieldType.byte))).before args0 about1 = true := code_word (m := ⟨16, 4⟩) (meth := k16m4) (c := k16c4) (by decide +kernel) rfl rfl rfl (by decide +kernel)
set_option maxRecDepth 65536 in
theorem w_c27 : (Jvm.Cond.code ({ cls := "java/util/Arrays", name := "checkLength", desc := "(II)V" } : Jvm.MethodName) jdk_65_method_131_code (2 : Nat) (Option.none : Option Jvm.ClassFile.FieldType)).before args0 about1 = true := code_word (m := ⟨16, 2⟩) (meth := k16m2) (c := k16c2) (by decide +kernel) rfl rfl rfl (by decide +kernel)
set_option maxRecDepth 65536 in
theorem w_c28 : (Jvm.Cond.code ({ cls := "java/lang/Math", name := "min", desc := "(II)I" } : Jvm.MethodName) jdk_29_method_69_code (2 : Nat) (Option.some Jvm.ClassFile.FieldType.int)).before args0 about1 = true := code_word (m := ⟨17, 2⟩) (meth := k17m2) (c := k17c2) (by decide +kernel) rfl rfl rfl (by decide +kernel)
set_option maxRecDepth 65536 in
theorem w_c29 : (Jvm.Cond.code ({ cls := "java/lang/Exception", name := "<init>", desc := "(Ljava/lang/String;)V" } : Jvm.MethodName) jdk_59_method_2_code (2 : Nat) (Option.none : Option Jvm.ClassFile.FieldType)).before args0 about1 = true := code_word (m := ⟨10, 1⟩) (meth := k10m1) (c := k10c1) (by decide +kernel) rfl rfl rfl (by decide +kernel)
set_option maxRecDepth 65536 in
theorem w_c30 : (Jvm.Cond.code ({ cls := "java/lang/Throwable", name := "<init>", desc := "(Ljava/lang/String;)V" } : Jvm.MethodName) jdk_78_method_2_code (2 : Nat) (Option.none : Option Jvm.ClassFile.FieldType)).before args0 about1 = true := code_word (m := ⟨9, 1⟩) (meth := k9m1) (c := k9c1) (by decide +kernel) rfl rfl rfl (by decide +kernel)
set_option maxRecDepth 65536 in
theorem w_c31 : (Jvm.Cond.code ({ cls := "java/lang/Throwable", name := "<init>", desc := "()V" } : Jvm.MethodName) jdk_78_method_1_code (1 : Nat) (Option.none : Option Jvm.ClassFile.FieldType)).before args0 about1 = true := code_word (m := ⟨9, 0⟩) (meth := k9m0) (c := k9c0) (by decide +kernel) rfl rfl rfl (by decide +kernel)
set_option maxRecDepth 65536 in
theorem w_c32 : (Jvm.Cond.code ({ cls := "com/example/vestwright/vestwright/run/RunRefusedException", name := "of", desc := "(Lcom/example/vestwright/vestwright/input/InputException;)Lcom/example/vestwright/vestwright/run/RunRefusedException;" } : Jvm.MethodName) prog_47_method_2_code (1 : Nat) (Option.some (Jvm.ClassFile.FieldType.object "com/example/vestwright/vestwright/run/RunRefusedException"))).before args0 about1 = true := code_word (m := ⟨18, 1⟩) (meth := k18m1) (c := k18c1) (by decide +kernel) rfl rfl rfl (by decide +kernel)
set_option maxRecDepth 65536 in
theorem w_c33 : (Jvm.Cond.code ({ cls := "java/lang/Throwable", name := "getMessage", desc := "()Ljava/lang/String;" } : Jvm.MethodName) jdk_78_method_6_code (1 : Nat) (Option.some (Jvm.ClassFile.FieldType.object "java/lang/String"))).before args0 about1 = true := code_word (m := ⟨9, 3⟩) (meth := k9m3) (c := k9c3) (by decide +kernel) rfl rfl rfl (by decide +kernel)
set_option maxRecDepth 65536 in
theorem w_c34 : (Jvm.Cond.code ({ cls := "com/example/vestwright/vestwright/run/RunRefusedException", name := "<init>", desc := "(Lcom/example/vestwright/vestwright/run/RunRefusedException$Kind;Ljava/lang/String;Ljava/lang/Exception;)V" } : Jvm.MethodName) prog_47_method_1_code (4 : Nat) (Option.none : Option Jvm.ClassFile.FieldType)).before args0 about1 = true := code_word (m := ⟨18, 0⟩) (meth := k18m0) (c := k18c0) (by decide +kernel) rfl rfl rfl (by decide +kernel)
set_option maxRecDepth 65536 in
theorem w_c35 : (Jvm.Cond.code ({ cls := "java/lang/Exception", name := "<init>", desc := "(Ljava/lang/String;Ljava/lang/Throwable;)V" } : Jvm.MethodName) jdk_59_method_3_code (3 : Nat) (Option.none : Option Jvm.ClassFile.FieldType)).before args0 about1 = true := code_word (m := ⟨10, 2⟩) (meth := k10m2) (c := k10c2) (by decide +kernel) rfl rfl rfl (by decide +kernel)
set_option maxRecDepth 65536 in
theorem w_c36 : (Jvm.Cond.code ({ cls := "java/lang/Throwable", name := "<init>", desc := "(Ljava/lang/String;Ljava/lang/Throwable;)V" } : Jvm.MethodName) jdk_78_method_3_code (3 : Nat) (Option.none : Option Jvm.ClassFile.FieldType)).before args0 about1 = true := code_word (m := ⟨9, 2⟩) (meth := k9m2) (c := k9c2) (by decide +kernel) rfl rfl rfl (by decide +kernel)
set_option maxRecDepth 65536 in
theorem w_c37 : (Jvm.Cond.code ({ cls := "com/example/vestwright/vestwright/run/RunRefusedException", name := "kind", desc := "()Lcom/example/vestwright/vestwright/run/RunRefusedException$Kind;" } : Jvm.MethodName) prog_47_method_5_code (1 : Nat) (Option.some (Jvm.ClassFile.FieldType.object "com/example/vestwright/vestwright/run/RunRefusedException$Kind"))).before args0 about1 = true := code_word (m := ⟨18, 2⟩) (meth := k18m2) (c := k18c2) (by decide +kernel) rfl rfl rfl (by decide +kernel)
set_option maxRecDepth 65536 in
theorem w_c38 : (Jvm.Cond.code ({ cls := "java/lang/String", name := "equals", desc := "(Ljava/lang/Object;)Z" } : Jvm.MethodName) jdk_42_method_66_code (3 : Nat) (Option.some Jvm.ClassFile.FieldType.boolean)).before args0 about1 = true := code_word (m := ⟨7, 4⟩) (meth := k7m4) (c := k7c4) (by decide +kernel) rfl rfl rfl (by decide +kernel)
set_option maxRecDepth 65536 in
theorem w_c39 : (Jvm.Cond.code ({ cls := "com/example/vestwright/vestwright/run/RunRefusedException", name := "file", desc := "()Ljava/util/Optional;" } : Jvm.MethodName) prog_47_method_6_code (1 : Nat) (Option.some (Jvm.ClassFile.FieldType.object "java/util/Optional"))).before args0 about1 = true := code_word (m := ⟨18, 3⟩) (meth := k18m3) (c := k18c3) (by decide +kernel) rfl rfl rfl (by decide +kernel)
set_option maxRecDepth 65536 in
theorem w_c40 : (Jvm.Cond.code ({ cls := "com/example/vestwright/vestwright/run/RunRefusedException", name := "input", desc := "()Lcom/example/vestwright/vestwright/input/InputException;" } : Jvm.MethodName) prog_47_method_9_code (1 : Nat) (Option.some (Jvm.ClassFile.FieldType.object "com/example/vestwright/vestwright/input/InputException"))).before args0 about1 = true := code_word (m := ⟨18, 6⟩) (meth := k18m6) (c := k18c6) (by decide +kernel) rfl rfl rfl (by decide +kernel)
set_option maxRecDepth 65536 in
theorem w_c41 : (Jvm.Cond.code ({ cls := "com/example/vestwright/vestwright/input/InputException", name := "file", desc := "()Ljava/lang/String;" } : Jvm.MethodName) prog_18_method_3_code (1 : Nat) (Option.some (Jvm.ClassFile.FieldType.object "java/lang/String"))).before args0 about1 = true := code_word (m := ⟨11, 2⟩) (meth := k11m2) (c := k11c2) (by decide +kernel) rfl rfl rfl (by decide +kernel)
set_option maxRecDepth 65536 in
theorem w_c42 : (Jvm.Cond.code ({ cls := "java/util/Optional", name := "of", desc := "(Ljava/lang/Object;)Ljava/util/Optional;" } : Jvm.MethodName) jdk_32_method_3_code (1 : Nat) (Option.some (Jvm.ClassFile.FieldType.object "java/util/Optional"))).before args0 about1 = true := code_word (m := ⟨21, 1⟩) (meth := k21m1) (c := k21c1) (by decide +kernel) rfl rfl rfl (by decide +kernel)
set_option maxRecDepth 65536 in
theorem w_c43 : (Jvm.Cond.code ({ cls := "java/util/Objects", name := "requireNonNull", desc := "(Ljava/lang/Object;)Ljava/lang/Object;" } : Jvm.MethodName) jdk_31_method_10_code (1 : Nat) (Option.some (Jvm.ClassFile.FieldType.object "java/lang/Object"))).before args0 about1 = true := code_word (m := ⟨22, 1⟩) (meth := k22m1) (c := k22c1) (by decide +kernel) rfl rfl rfl (by decide +kernel)
set_option maxRecDepth 65536 in
theorem w_c44 : (Jvm.Cond.code ({ cls := "java/util/Optional", name := "<init>", desc := "(Ljava/lang/Object;)V" } : Jvm.MethodName) jdk_32_method_2_code (2 : Nat) (Option.none : Option Jvm.ClassFile.FieldType)).before args0 about1 = true := code_word (m := ⟨21, 0⟩) (meth := k21m0) (c := k21c0) (by decide +kernel) rfl rfl rfl (by decide +kernel)
set_option maxRecDepth 65536 in
theorem w_c45 : (Jvm.Cond.code ({ cls := "java/util/Optional", name := "isPresent", desc := "()Z" } : Jvm.MethodName) jdk_32_method_6_code (1 : Nat) (Option.some Jvm.ClassFile.FieldType.boolean)).before args0 about1 = true := code_word (m := ⟨21, 3⟩) (meth := k21m3) (c := k21c3) (by decide +kernel) rfl rfl rfl (by decide +kernel)
set_option maxRecDepth 65536 in
theorem w_c46 : (Jvm.Cond.code ({ cls := "java/util/Optional", name := "get", desc := "()Ljava/lang/Object;" } : Jvm.MethodName) jdk_32_method_5_code (1 : Nat) (Option.some (Jvm.ClassFile.FieldType.object "java/lang/Object"))).before args0 about1 = true := code_word (m := ⟨21, 2⟩) (meth := k21m2) (c := k21c2) (by decide +kernel) rfl rfl rfl (by decide +kernel)
set_option maxRecDepth 65536 in
theorem w_c47 : (Jvm.Cond.code ({ cls := "com/example/vestwright/vestwright/run/RunRefusedException", name := "reason", desc := "()Ljava/lang/String;" } : Jvm.MethodName) prog_47_method_8_code (1 : Nat) (Option.some (Jvm.ClassFile.FieldType.object "java/lang/String"))).before args0 about1 = true := code_word (m := ⟨18, 5⟩) (meth := k18m5) (c := k18c5) (by decide +kernel) rfl rfl rfl (by decide +kernel)
set_option maxRecDepth 65536 in
theorem w_c48 : (Jvm.Cond.code ({ cls := "com/example/vestwright/vestwright/input/InputException", name := "reason", desc := "()Ljava/lang/String;" } : Jvm.MethodName) prog_18_method_5_code (1 : Nat) (Option.some (Jvm.ClassFile.FieldType.object "java/lang/String"))).before args0 about1 = true := code_word (m := ⟨11, 4⟩) (meth := k11m4) (c := k11c4) (by decide +kernel) rfl rfl rfl (by decide +kernel)
set_option maxRecDepth 65536 in
theorem w_c49 : (Jvm.Cond.code ({ cls := "com/example/vestwright/vestwright/run/RunRefusedException", name := "line", desc := "()Ljava/util/OptionalInt;" } : Jvm.MethodName) prog_47_method_7_code (1 : Nat) (Option.some (Jvm.ClassFile.FieldType.object "java/util/OptionalInt"))).before args0 about1 = true := code_word (m := ⟨18, 4⟩) (meth := k18m4) (c := k18c4) (by decide +kernel) rfl rfl rfl (by decide +kernel)
set_option maxRecDepth 65536 in
theorem w_c50 : (Jvm.Cond.code ({ cls := "com/example/vestwright/vestwright/input/InputException", name := "line", desc := "()Ljava/util/OptionalInt;" } : Jvm.MethodName) prog_18_method_4_code (1 : Nat) (Option.some (Jvm.ClassFile.FieldType.object "java/util/OptionalInt"))).before args0 about1 = true := code_word (m := ⟨11, 3⟩) (meth := k11m3) (c := k11c3) (by decide +kernel) rfl rfl rfl (by decide +kernel)
set_option maxRecDepth 65536 in
theorem w_c51 : (Jvm.Cond.code ({ cls := "java/util/OptionalInt", name := "empty", desc := "()Ljava/util/OptionalInt;" } : Jvm.MethodName) jdk_2649_method_2_code (0 : Nat) (Option.some (Jvm.ClassFile.FieldType.object "java/util/OptionalInt"))).before args0 about1 = true := code_word (m := ⟨23, 1⟩) (meth := k23m1) (c := k23c1) (by decide +kernel) rfl rfl rfl (by decide +kernel)
set_option maxRecDepth 65536 in
theorem w_c52 : (Jvm.Cond.code ({ cls := "java/util/OptionalInt", name := "isPresent", desc := "()Z" } : Jvm.MethodName) jdk_2649_method_6_code (1 : Nat) (Option.some Jvm.ClassFile.FieldType.boolean)).before args0 about1 = true := code_word (m := ⟨23, 5⟩) (meth := k23m5) (c := k23c5) (by decide +kernel) rfl rfl rfl (by decide +kernel)
set_option maxRecDepth 65536 in
theorem w_c53 : (Jvm.Cond.code ({ cls := "com/example/vestwright/vestwright/input/InputException", name := "<init>", desc := "(Ljava/lang/String;ILjava/lang/String;)V" } : Jvm.MethodName) prog_18_method_1_code (4 : Nat) (Option.none : Option Jvm.ClassFile.FieldType)).before args0 about1 = true := code_word (m := ⟨11, 0⟩) (meth := k11m0) (c := k11c0) (by decide +kernel) rfl rfl rfl (by decide +kernel)
set_option maxRecDepth 65536 in
theorem w_c54 : (Jvm.Cond.code ({ cls := "java/lang/StringBuilder", name := "append", desc := "(I)Ljava/lang/StringBuilder;" } : Jvm.MethodName) jdk_67_method_15_code (2 : Nat) (Option.some (Jvm.ClassFile.FieldType.object "java/lang/StringBuilder"))).before args0 about1 = true := code_word (m := ⟨14, 2⟩) (meth := k14m2) (c := k14c2) (by decide +kernel) rfl rfl rfl (by decide +kernel)
set_option maxRecDepth 65536 in
theorem w_c55 : (Jvm.Cond.code ({ cls := "java/lang/AbstractStringBuilder", name := "append", desc := "(I)Ljava/lang/AbstractStringBuilder;" } : Jvm.MethodName) jdk_68_method_32_code (4 : Nat) (Option.some (Jvm.ClassFile.FieldType.object "java/lang/AbstractStringBuilder"))).before args0 about1 = true := code_word (m := ⟨13, 6⟩) (meth := k13m6) (c := k13c6) (by decide +kernel) rfl rfl rfl (by decide +kernel)
set_option maxRecDepth 65536 in
theorem w_c56 : (Jvm.Cond.code ({ cls := "java/lang/Integer", name := "stringSize", desc := "(I)I" } : Jvm.MethodName) jdk_33_method_13_code (4 : Nat) (Option.some Jvm.ClassFile.FieldType.int)).before args0 about1 = true := code_word (m := ⟨25, 1⟩) (meth := k25m1) (c := k25c1) (by decide +kernel) rfl rfl rfl (by decide +kernel)
set_option maxRecDepth 65536 in
theorem w_c57 : (Jvm.Cond.code ({ cls := "java/lang/Integer", name := "getChars", desc := "(II[B)I" } : Jvm.MethodName) jdk_33_method_12_code (7 : Nat) (Option.some Jvm.ClassFile.FieldType.int)).before args0 about1 = true := code_word (m := ⟨25, 0⟩) (meth := k25m0) (c := k25c0) (by decide +kernel) rfl rfl rfl (by decide +kernel)
set_option maxRecDepth 65536 in
theorem w_c58 : (Jvm.Cond.code ({ cls := "java/util/OptionalInt", name := "of", desc := "(I)Ljava/util/OptionalInt;" } : Jvm.MethodName) jdk_2649_method_4_code (1 : Nat) (Option.some (Jvm.ClassFile.FieldType.object "java/util/OptionalInt"))).before args0 about1 = true := code_word (m := ⟨23, 3⟩) (meth := k23m3) (c := k23c3) (by decide +kernel) rfl rfl rfl (by decide +kernel)
set_option maxRecDepth 65536 in
theorem w_c59 : (Jvm.Cond.code ({ cls := "java/util/OptionalInt", name := "<init>", desc := "(I)V" } : Jvm.MethodName) jdk_2649_method_3_code (2 : Nat) (Option.none : Option Jvm.ClassFile.FieldType)).before args0 about1 = true := code_word (m := ⟨23, 2⟩) (meth := k23m2) (c := k23c2) (by decide +kernel) rfl rfl rfl (by decide +kernel)
set_option maxRecDepth 65536 in
theorem w_c60 : (Jvm.Cond.code ({ cls := "java/util/OptionalInt", name := "getAsInt", desc := "()I" } : Jvm.MethodName) jdk_2649_method_5_code (1 : Nat) (Option.some Jvm.ClassFile.FieldType.int)).before args0 about1 = true := code_word (m := ⟨23, 4⟩) (meth := k23m4) (c := k23c4) (by decide +kernel) rfl rfl rfl (by decide +kernel)
set_option maxRecDepth 65536 in
theorem w_c61 : (Jvm.Cond.code ({ cls := "java/lang/AbstractStringBuilder", name := "newCapacity", desc := "(I)I" } : Jvm.MethodName) jdk_68_method_10_code (6 : Nat) (Option.some Jvm.ClassFile.FieldType.int)).before args0 about1 = true := code_word (m := ⟨13, 4⟩) (meth := k13m4) (c := k13c4) (by decide +kernel) rfl rfl rfl (by decide +kernel)
set_option maxRecDepth 65536 in
theorem w_c62 : (Jvm.Cond.code ({ cls := "jdk/internal/util/ArraysSupport", name := "newLength", desc := "(III)I" } : Jvm.MethodName) jdk_48_method_27_code (4 : Nat) (Option.some Jvm.ClassFile.FieldType.int)).before args0 about1 = true := code_word (m := ⟨26, 1⟩) (meth := k26m1) (c := k26c1) (by decide +kernel) rfl rfl rfl (by decide +kernel)
set_option maxRecDepth 65536 in
theorem w_c63 : (Jvm.Cond.code ({ cls := "java/lang/Math", name := "max", desc := "(II)I" } : Jvm.MethodName) jdk_29_method_65_code (2 : Nat) (Option.some Jvm.ClassFile.FieldType.int)).before args0 about1 = true := code_word (m := ⟨17, 1⟩) (meth := k17m1) (c := k17c1) (by decide +kernel) rfl rfl rfl (by decide +kernel)
set_option maxRecDepth 65536 in
theorem w_c64 : (Jvm.Cond.code ({ cls := "java/util/Arrays", name := "copyOf", desc := "([BI)[B" } : Jvm.MethodName) jdk_65_method_121_code (3 : Nat) (Option.some (Jvm.ClassFile.FieldType.array Jvm.ClassFile.FieldType.byte))).before args0 about1 = true := code_word (m := ⟨16, 1⟩) (meth := k16m1) (c := k16c1) (by decide +kernel) rfl rfl rfl (by decide +kernel)
def codes1 : List Jvm.Cond := [Jvm.Cond.code x code maxLocals ret, Jvm.Cond.code ({ cls := "java/lang/String", name := "<init>", desc := "([C)V" } : Jvm.MethodName) jdk_42_method_3_code (2 : Nat) (Option.none : Option Jvm.ClassFile.FieldType), Jvm.Cond.code ({ cls := "java/lang/String", name := "<init>", desc := "([CIILjava/lang/Void;)V" } : Jvm.MethodName) jdk_42_method_149_code (6 : Nat) (Option.none : Option Jvm.ClassFile.FieldType), Jvm.Cond.code ({ cls := "java/lang/Object", name := "<init>", desc := "()V" } : Jvm.MethodName) object_method_1_code (1 : Nat) (Option.none : Option Jvm.ClassFile.FieldType), Jvm.Cond.code ({ cls := "java/lang/StringUTF16", name := "compress", desc := "([CII)[B" } : Jvm.MethodName) jdk_52_method_16_code (6 : Nat) (Option.some (Jvm.ClassFile.FieldType.array Jvm.ClassFile.FieldType.byte)), Jvm.Cond.code ({ cls := "java/lang/StringUTF16", name := "compress", desc := "([CI[BII)I" } : Jvm.MethodName) jdk_52_method_21_code (7 : Nat) (Option.some Jvm.ClassFile.FieldType.int), Jvm.Cond.code ({ cls := "java/lang/StringUTF16", name := "coderFromArrayLen", desc := "([BI)B" } : Jvm.MethodName) jdk_52_method_15_code (2 : Nat) (Option.some Jvm.ClassFile.FieldType.byte), Jvm.Cond.code ({ cls := "com/example/vestwright/vestwright/input/InputException", name := "<init>", desc := "(Ljava/lang/String;Ljava/lang/String;)V" } : Jvm.MethodName) prog_18_method_2_code (3 : Nat) (Option.none : Option Jvm.ClassFile.FieldType), Jvm.Cond.code ({ cls := "java/lang/StringBuilder", name := "<init>", desc := "()V" } : Jvm.MethodName) jdk_67_method_1_code (1 : Nat) (Option.none : Option Jvm.ClassFile.FieldType), Jvm.Cond.code ({ cls := "java/lang/AbstractStringBuilder", name := "<init>", desc := "(I)V" } : Jvm.MethodName) jdk_68_method_2_code (2 : Nat) (Option.none : Option Jvm.ClassFile.FieldType), Jvm.Cond.code ({ cls := "java/lang/StringBuilder", name := "append", desc := "(Ljava/lang/String;)Ljava/lang/StringBuilder;" } : Jvm.MethodName) jdk_67_method_7_code (2 : Nat) (Option.some (Jvm.ClassFile.FieldType.object "java/lang/StringBuilder")), Jvm.Cond.code ({ cls := "java/lang/AbstractStringBuilder", name := "append", desc := "(Ljava/lang/String;)Ljava/lang/AbstractStringBuilder;" } : Jvm.MethodName) jdk_68_method_22_code (3 : Nat) (Option.some (Jvm.ClassFile.FieldType.object "java/lang/AbstractStringBuilder")), Jvm.Cond.code ({ cls := "java/lang/String", name := "length", desc := "()I" } : Jvm.MethodName) jdk_42_method_54_code (1 : Nat) (Option.some Jvm.ClassFile.FieldType.int), Jvm.Cond.code ({ cls := "java/lang/String", name := "coder", desc := "()B" } : Jvm.MethodName) jdk_42_method_152_code (1 : Nat) (Option.some Jvm.ClassFile.FieldType.byte), Jvm.Cond.code ({ cls := "java/lang/AbstractStringBuilder", name := "ensureCapacityInternal", desc := "(I)V" } : Jvm.MethodName) jdk_68_method_9_code (3 : Nat) (Option.none : Option Jvm.ClassFile.FieldType), Jvm.Cond.code ({ cls := "java/lang/AbstractStringBuilder", name := "putStringAt", desc := "(ILjava/lang/String;)V" } : Jvm.MethodName) jdk_68_method_73_code (3 : Nat) (Option.none : Option Jvm.ClassFile.FieldType), Jvm.Cond.code ({ cls := "java/lang/AbstractStringBuilder", name := "inflateIfNeededFor", desc := "(Ljava/lang/String;)V" } : Jvm.MethodName) jdk_68_method_71_code (2 : Nat) (Option.none : Option Jvm.ClassFile.FieldType), Jvm.Cond.code ({ cls := "java/lang/String", name := "getBytes", desc := "([BIB)V" } : Jvm.MethodName) jdk_42_method_147_code (4 : Nat) (Option.none : Option Jvm.ClassFile.FieldType), Jvm.Cond.code ({ cls := "java/lang/StringBuilder", name := "toString", desc := "()Ljava/lang/String;" } : Jvm.MethodName) jdk_67_method_42_code (1 : Nat) (Option.some (Jvm.ClassFile.FieldType.object "java/lang/String")), Jvm.Cond.code ({ cls := "java/lang/String", name := "<init>", desc := "(Ljava/lang/StringBuilder;)V" } : Jvm.MethodName) jdk_42_method_53_code (2 : Nat) (Option.none : Option Jvm.ClassFile.FieldType), Jvm.Cond.code ({ cls := "java/lang/String", name := "<init>", desc := "(Ljava/lang/AbstractStringBuilder;Ljava/lang/Void;)V" } : Jvm.MethodName) jdk_42_method_150_code (5 : Nat) (Option.none : Option Jvm.ClassFile.FieldType), Jvm.Cond.code ({ cls := "java/lang/AbstractStringBuilder", name := "getValue", desc := "()[B" } : Jvm.MethodName) jdk_68_method_64_code (1 : Nat) (Option.some (Jvm.ClassFile.FieldType.array Jvm.ClassFile.FieldType.byte)), Jvm.Cond.code ({ cls := "java/lang/StringBuilder", name := "length", desc := "()I" } : Jvm.MethodName) jdk_67_method_93_code (1 : Nat) (Option.some Jvm.ClassFile.FieldType.int), Jvm.Cond.code ({ cls := "java/lang/AbstractStringBuilder", name := "length", desc := "()I" } : Jvm.MethodName) jdk_68_method_6_code (1 : Nat) (Option.some Jvm.ClassFile.FieldType.int), Jvm.Cond.code ({ cls := "java/lang/AbstractStringBuilder", name := "isLatin1", desc := "()Z" } : Jvm.MethodName) jdk_68_method_68_code (1 : Nat) (Option.some Jvm.ClassFile.FieldType.boolean), Jvm.Cond.code ({ cls := "java/util/Arrays", name := "copyOfRange", desc := "([BII)[B" } : Jvm.MethodName) jdk_65_method_132_code (3 : Nat) (Option.some (Jvm.ClassFile.FieldType.array Jvm.ClassFile.FieldType.byte)), Jvm.Cond.code ({ cls := "java/util/Arrays", name := "copyOfRangeByte", desc := "([BII)[B" } : Jvm.MethodName) jdk_65_method_133_code (5 : Nat) (Option.some (Jvm.ClassFile.FieldType.array Jvm.ClassFile.FieldType.byte)), Jvm.Cond.code ({ cls := "java/util/Arrays", name := "checkLength", desc := "(II)V" } : Jvm.MethodName) jdk_65_method_131_code (2 : Nat) (Option.none : Option Jvm.ClassFile.FieldType), Jvm.Cond.code ({ cls := "java/lang/Math", name := "min", desc := "(II)I" } : Jvm.MethodName) jdk_29_method_69_code (2 : Nat) (Option.some Jvm.ClassFile.FieldType.int), Jvm.Cond.code ({ cls := "java/lang/Exception", name := "<init>", desc := "(Ljava/lang/String;)V" } : Jvm.MethodName) jdk_59_method_2_code (2 : Nat) (Option.none : Option Jvm.ClassFile.FieldType), Jvm.Cond.code ({ cls := "java/lang/Throwable", name := "<init>", desc := "(Ljava/lang/String;)V" } : Jvm.MethodName) jdk_78_method_2_code (2 : Nat) (Option.none : Option Jvm.ClassFile.FieldType), Jvm.Cond.code ({ cls := "java/lang/Throwable", name := "<init>", desc := "()V" } : Jvm.MethodName) jdk_78_method_1_code (1 : Nat) (Option.none : Option Jvm.ClassFile.FieldType), Jvm.Cond.code ({ cls := "com/example/vestwright/vestwright/run/RunRefusedException", name := "of", desc := "(Lcom/example/vestwright/vestwright/input/InputException;)Lcom/example/vestwright/vestwright/run/RunRefusedException;" } : Jvm.MethodName) prog_47_method_2_code (1 : Nat) (Option.some (Jvm.ClassFile.FieldType.object "com/example/vestwright/vestwright/run/RunRefusedException")), Jvm.Cond.code ({ cls := "java/lang/Throwable", name := "getMessage", desc := "()Ljava/lang/String;" } : Jvm.MethodName) jdk_78_method_6_code (1 : Nat) (Option.some (Jvm.ClassFile.FieldType.object "java/lang/String")), Jvm.Cond.code ({ cls := "com/example/vestwright/vestwright/run/RunRefusedException", name := "<init>", desc := "(Lcom/example/vestwright/vestwright/run/RunRefusedException$Kind;Ljava/lang/String;Ljava/lang/Exception;)V" } : Jvm.MethodName) prog_47_method_1_code (4 : Nat) (Option.none : Option Jvm.ClassFile.FieldType), Jvm.Cond.code ({ cls := "java/lang/Exception", name := "<init>", desc := "(Ljava/lang/String;Ljava/lang/Throwable;)V" } : Jvm.MethodName) jdk_59_method_3_code (3 : Nat) (Option.none : Option Jvm.ClassFile.FieldType), Jvm.Cond.code ({ cls := "java/lang/Throwable", name := "<init>", desc := "(Ljava/lang/String;Ljava/lang/Throwable;)V" } : Jvm.MethodName) jdk_78_method_3_code (3 : Nat) (Option.none : Option Jvm.ClassFile.FieldType), Jvm.Cond.code ({ cls := "com/example/vestwright/vestwright/run/RunRefusedException", name := "kind", desc := "()Lcom/example/vestwright/vestwright/run/RunRefusedException$Kind;" } : Jvm.MethodName) prog_47_method_5_code (1 : Nat) (Option.some (Jvm.ClassFile.FieldType.object "com/example/vestwright/vestwright/run/RunRefusedException$Kind")), Jvm.Cond.code ({ cls := "java/lang/String", name := "equals", desc := "(Ljava/lang/Object;)Z" } : Jvm.MethodName) jdk_42_method_66_code (3 : Nat) (Option.some Jvm.ClassFile.FieldType.boolean), Jvm.Cond.code ({ cls := "com/example/vestwright/vestwright/run/RunRefusedException", name := "file", desc := "()Ljava/util/Optional;" } : Jvm.MethodName) prog_47_method_6_code (1 : Nat) (Option.some (Jvm.ClassFile.FieldType.object "java/util/Optional")), Jvm.Cond.code ({ cls := "com/example/vestwright/vestwright/run/RunRefusedException", name := "input", desc := "()Lcom/example/vestwright/vestwright/input/InputException;" } : Jvm.MethodName) prog_47_method_9_code (1 : Nat) (Option.some (Jvm.ClassFile.FieldType.object "com/example/vestwright/vestwright/input/InputException")), Jvm.Cond.code ({ cls := "com/example/vestwright/vestwright/input/InputException", name := "file", desc := "()Ljava/lang/String;" } : Jvm.MethodName) prog_18_method_3_code (1 : Nat) (Option.some (Jvm.ClassFile.FieldType.object "java/lang/String")), Jvm.Cond.code ({ cls := "java/util/Optional", name := "of", desc := "(Ljava/lang/Object;)Ljava/util/Optional;" } : Jvm.MethodName) jdk_32_method_3_code (1 : Nat) (Option.some (Jvm.ClassFile.FieldType.object "java/util/Optional")), Jvm.Cond.code ({ cls := "java/util/Objects", name := "requireNonNull", desc := "(Ljava/lang/Object;)Ljava/lang/Object;" } : Jvm.MethodName) jdk_31_method_10_code (1 : Nat) (Option.some (Jvm.ClassFile.FieldType.object "java/lang/Object")), Jvm.Cond.code ({ cls := "java/util/Optional", name := "<init>", desc := "(Ljava/lang/Object;)V" } : Jvm.MethodName) jdk_32_method_2_code (2 : Nat) (Option.none : Option Jvm.ClassFile.FieldType), Jvm.Cond.code ({ cls := "java/util/Optional", name := "isPresent", desc := "()Z" } : Jvm.MethodName) jdk_32_method_6_code (1 : Nat) (Option.some Jvm.ClassFile.FieldType.boolean), Jvm.Cond.code ({ cls := "java/util/Optional", name := "get", desc := "()Ljava/lang/Object;" } : Jvm.MethodName) jdk_32_method_5_code (1 : Nat) (Option.some (Jvm.ClassFile.FieldType.object "java/lang/Object")), Jvm.Cond.code ({ cls := "com/example/vestwright/vestwright/run/RunRefusedException", name := "reason", desc := "()Ljava/lang/String;" } : Jvm.MethodName) prog_47_method_8_code (1 : Nat) (Option.some (Jvm.ClassFile.FieldType.object "java/lang/String")), Jvm.Cond.code ({ cls := "com/example/vestwright/vestwright/input/InputException", name := "reason", desc := "()Ljava/lang/String;" } : Jvm.MethodName) prog_18_method_5_code (1 : Nat) (Option.some (Jvm.ClassFile.FieldType.object "java/lang/String")), Jvm.Cond.code ({ cls := "com/example/vestwright/vestwright/run/RunRefusedException", name := "line", desc := "()Ljava/util/OptionalInt;" } : Jvm.MethodName) prog_47_method_7_code (1 : Nat) (Option.some (Jvm.ClassFile.FieldType.object "java/util/OptionalInt")), Jvm.Cond.code ({ cls := "com/example/vestwright/vestwright/input/InputException", name := "line", desc := "()Ljava/util/OptionalInt;" } : Jvm.MethodName) prog_18_method_4_code (1 : Nat) (Option.some (Jvm.ClassFile.FieldType.object "java/util/OptionalInt")), Jvm.Cond.code ({ cls := "java/util/OptionalInt", name := "empty", desc := "()Ljava/util/OptionalInt;" } : Jvm.MethodName) jdk_2649_method_2_code (0 : Nat) (Option.some (Jvm.ClassFile.FieldType.object "java/util/OptionalInt")), Jvm.Cond.code ({ cls := "java/util/OptionalInt", name := "isPresent", desc := "()Z" } : Jvm.MethodName) jdk_2649_method_6_code (1 : Nat) (Option.some Jvm.ClassFile.FieldType.boolean), Jvm.Cond.code ({ cls := "com/example/vestwright/vestwright/input/InputException", name := "<init>", desc := "(Ljava/lang/String;ILjava/lang/String;)V" } : Jvm.MethodName) prog_18_method_1_code (4 : Nat) (Option.none : Option Jvm.ClassFile.FieldType), Jvm.Cond.code ({ cls := "java/lang/StringBuilder", name := "append", desc := "(I)Ljava/lang/StringBuilder;" } : Jvm.MethodName) jdk_67_method_15_code (2 : Nat) (Option.some (Jvm.ClassFile.FieldType.object "java/lang/StringBuilder")), Jvm.Cond.code ({ cls := "java/lang/AbstractStringBuilder", name := "append", desc := "(I)Ljava/lang/AbstractStringBuilder;" } : Jvm.MethodName) jdk_68_method_32_code (4 : Nat) (Option.some (Jvm.ClassFile.FieldType.object "java/lang/AbstractStringBuilder")), Jvm.Cond.code ({ cls := "java/lang/Integer", name := "stringSize", desc := "(I)I" } : Jvm.MethodName) jdk_33_method_13_code (4 : Nat) (Option.some Jvm.ClassFile.FieldType.int), Jvm.Cond.code ({ cls := "java/lang/Integer", name := "getChars", desc := "(II[B)I" } : Jvm.MethodName) jdk_33_method_12_code (7 : Nat) (Option.some Jvm.ClassFile.FieldType.int), Jvm.Cond.code ({ cls := "java/util/OptionalInt", name := "of", desc := "(I)Ljava/util/OptionalInt;" } : Jvm.MethodName) jdk_2649_method_4_code (1 : Nat) (Option.some (Jvm.ClassFile.FieldType.object "java/util/OptionalInt")), Jvm.Cond.code ({ cls := "java/util/OptionalInt", name := "<init>", desc := "(I)V" } : Jvm.MethodName) jdk_2649_method_3_code (2 : Nat) (Option.none : Option Jvm.ClassFile.FieldType), Jvm.Cond.code ({ cls := "java/util/OptionalInt", name := "getAsInt", desc := "()I" } : Jvm.MethodName) jdk_2649_method_5_code (1 : Nat) (Option.some Jvm.ClassFile.FieldType.int), Jvm.Cond.code ({ cls := "java/lang/AbstractStringBuilder", name := "newCapacity", desc := "(I)I" } : Jvm.MethodName) jdk_68_method_10_code (6 : Nat) (Option.some Jvm.ClassFile.FieldType.int), Jvm.Cond.code ({ cls := "jdk/internal/util/ArraysSupport", name := "newLength", desc := "(III)I" } : Jvm.MethodName) jdk_48_method_27_code (4 : Nat) (Option.some Jvm.ClassFile.FieldType.int), Jvm.Cond.code ({ cls := "java/lang/Math", name := "max", desc := "(II)I" } : Jvm.MethodName) jdk_29_method_65_code (2 : Nat) (Option.some Jvm.ClassFile.FieldType.int), Jvm.Cond.code ({ cls := "java/util/Arrays", name := "copyOf", desc := "([BI)[B" } : Jvm.MethodName) jdk_65_method_121_code (3 : Nat) (Option.some (Jvm.ClassFile.FieldType.array Jvm.ClassFile.FieldType.byte))]
set_option maxRecDepth 65536 in
theorem codes_eq : words1.filter isCode = codes1 := rfl
theorem w_codes : ∀ c ∈ words1.filter isCode, c.before args0 about1 = true := by
  rw [codes_eq]
  intro c hc
  simp only [codes1, List.mem_cons, List.not_mem_nil, or_false] at hc
  rcases hc with rfl | rfl | rfl | rfl | rfl | rfl | rfl | rfl | rfl | rfl | rfl | rfl | rfl | rfl | rfl | rfl | rfl | rfl | rfl | rfl | rfl | rfl | rfl | rfl | rfl | rfl | rfl | rfl | rfl | rfl | rfl | rfl | rfl | rfl | rfl | rfl | rfl | rfl | rfl | rfl | rfl | rfl | rfl | rfl | rfl | rfl | rfl | rfl | rfl | rfl | rfl | rfl | rfl | rfl | rfl | rfl | rfl | rfl | rfl | rfl | rfl | rfl | rfl | rfl | rfl
  · exact w_c0
  · exact w_c1
  · exact w_c2
  · exact w_c3
  · exact w_c4
  · exact w_c5
  · exact w_c6
  · exact w_c7
  · exact w_c8
  · exact w_c9
  · exact w_c10
  · exact w_c11
  · exact w_c12
  · exact w_c13
  · exact w_c14
  · exact w_c15
  · exact w_c16
  · exact w_c17
  · exact w_c18
  · exact w_c19
  · exact w_c20
  · exact w_c21
  · exact w_c22
  · exact w_c23
  · exact w_c24
  · exact w_c25
  · exact w_c26
  · exact w_c27
  · exact w_c28
  · exact w_c29
  · exact w_c30
  · exact w_c31
  · exact w_c32
  · exact w_c33
  · exact w_c34
  · exact w_c35
  · exact w_c36
  · exact w_c37
  · exact w_c38
  · exact w_c39
  · exact w_c40
  · exact w_c41
  · exact w_c42
  · exact w_c43
  · exact w_c44
  · exact w_c45
  · exact w_c46
  · exact w_c47
  · exact w_c48
  · exact w_c49
  · exact w_c50
  · exact w_c51
  · exact w_c52
  · exact w_c53
  · exact w_c54
  · exact w_c55
  · exact w_c56
  · exact w_c57
  · exact w_c58
  · exact w_c59
  · exact w_c60
  · exact w_c61
  · exact w_c62
  · exact w_c63
  · exact w_c64
set_option maxRecDepth 65536 in
theorem w_t1 : (words1.take 24).all (fun c => isCode c || c.before args0 about1) = true := by decide +kernel
set_option maxRecDepth 65536 in
theorem w_t2 : ((words1.drop 24).take 24).all (fun c => isCode c || c.before args0 about1) = true := by decide +kernel
set_option maxRecDepth 65536 in
theorem w_t3 : (((words1.drop 24).drop 24).take 24).all (fun c => isCode c || c.before args0 about1) = true := by decide +kernel
set_option maxRecDepth 65536 in
theorem w_t4 : ((((words1.drop 24).drop 24).drop 24).take 24).all (fun c => isCode c || c.before args0 about1) = true := by decide +kernel
set_option maxRecDepth 65536 in
theorem w_t5 : (((((words1.drop 24).drop 24).drop 24).drop 24).take 24).all (fun c => isCode c || c.before args0 about1) = true := by decide +kernel
set_option maxRecDepth 65536 in
theorem w_t6 : ((((((words1.drop 24).drop 24).drop 24).drop 24).drop 24).take 24).all (fun c => isCode c || c.before args0 about1) = true := by decide +kernel
set_option maxRecDepth 65536 in
theorem w_t7 : (((((((words1.drop 24).drop 24).drop 24).drop 24).drop 24).drop 24).take 24).all (fun c => isCode c || c.before args0 about1) = true := by decide +kernel
set_option maxRecDepth 65536 in
theorem w_t8 : ((((((((words1.drop 24).drop 24).drop 24).drop 24).drop 24).drop 24).drop 24).take 24).all (fun c => isCode c || c.before args0 about1) = true := by decide +kernel
set_option maxRecDepth 65536 in
theorem w_t9 : (((((((((words1.drop 24).drop 24).drop 24).drop 24).drop 24).drop 24).drop 24).drop 24).take 24).all (fun c => isCode c || c.before args0 about1) = true := by decide +kernel
set_option maxRecDepth 65536 in
theorem w_t10 : ((((((((((words1.drop 24).drop 24).drop 24).drop 24).drop 24).drop 24).drop 24).drop 24).drop 24).take 24).all (fun c => isCode c || c.before args0 about1) = true := by decide +kernel
set_option maxRecDepth 65536 in
theorem w_t11 : (((((((((((words1.drop 24).drop 24).drop 24).drop 24).drop 24).drop 24).drop 24).drop 24).drop 24).drop 24).take 24).all (fun c => isCode c || c.before args0 about1) = true := by decide +kernel
set_option maxRecDepth 65536 in
theorem w_t12 : ((((((((((((words1.drop 24).drop 24).drop 24).drop 24).drop 24).drop 24).drop 24).drop 24).drop 24).drop 24).drop 24).take 24).all (fun c => isCode c || c.before args0 about1) = true := by decide +kernel
set_option maxRecDepth 65536 in
theorem w_t13 : (((((((((((((words1.drop 24).drop 24).drop 24).drop 24).drop 24).drop 24).drop 24).drop 24).drop 24).drop 24).drop 24).drop 24).take 24).all (fun c => isCode c || c.before args0 about1) = true := by decide +kernel
set_option maxRecDepth 65536 in
theorem w_t14 : ((((((((((((((words1.drop 24).drop 24).drop 24).drop 24).drop 24).drop 24).drop 24).drop 24).drop 24).drop 24).drop 24).drop 24).drop 24).take 24).all (fun c => isCode c || c.before args0 about1) = true := by decide +kernel
set_option maxRecDepth 65536 in
theorem w_t15 : (((((((((((((((words1.drop 24).drop 24).drop 24).drop 24).drop 24).drop 24).drop 24).drop 24).drop 24).drop 24).drop 24).drop 24).drop 24).drop 24).take 24).all (fun c => isCode c || c.before args0 about1) = true := by decide +kernel
set_option maxRecDepth 65536 in
theorem w_t16 : ((((((((((((((((words1.drop 24).drop 24).drop 24).drop 24).drop 24).drop 24).drop 24).drop 24).drop 24).drop 24).drop 24).drop 24).drop 24).drop 24).drop 24).take 24).all (fun c => isCode c || c.before args0 about1) = true := by decide +kernel
set_option maxRecDepth 65536 in
theorem w_t17 : ((((((((((((((((words1.drop 24).drop 24).drop 24).drop 24).drop 24).drop 24).drop 24).drop 24).drop 24).drop 24).drop 24).drop 24).drop 24).drop 24).drop 24).drop 24).all (fun c => isCode c || c.before args0 about1) = true := by decide +kernel
theorem w_tables : (allAtoms (Jvm.Cond.code x code maxLocals ret :: tables_1)).before args0 about1 = true := by
  rw [allAtoms_all]
  show words1.all (fun c => c.before args0 about1) = true
  refine all_split ?_ w_codes
  rw [← List.take_append_drop 24 words1, List.all_append, w_t1, ← List.take_append_drop 24 (words1.drop 24), List.all_append, w_t2, ← List.take_append_drop 24 ((words1.drop 24).drop 24), List.all_append, w_t3, ← List.take_append_drop 24 (((words1.drop 24).drop 24).drop 24), List.all_append, w_t4, ← List.take_append_drop 24 ((((words1.drop 24).drop 24).drop 24).drop 24), List.all_append, w_t5, ← List.take_append_drop 24 (((((words1.drop 24).drop 24).drop 24).drop 24).drop 24), List.all_append, w_t6, ← List.take_append_drop 24 ((((((words1.drop 24).drop 24).drop 24).drop 24).drop 24).drop 24), List.all_append, w_t7, ← List.take_append_drop 24 (((((((words1.drop 24).drop 24).drop 24).drop 24).drop 24).drop 24).drop 24), List.all_append, w_t8, ← List.take_append_drop 24 ((((((((words1.drop 24).drop 24).drop 24).drop 24).drop 24).drop 24).drop 24).drop 24), List.all_append, w_t9, ← List.take_append_drop 24 (((((((((words1.drop 24).drop 24).drop 24).drop 24).drop 24).drop 24).drop 24).drop 24).drop 24), List.all_append, w_t10, ← List.take_append_drop 24 ((((((((((words1.drop 24).drop 24).drop 24).drop 24).drop 24).drop 24).drop 24).drop 24).drop 24).drop 24), List.all_append, w_t11, ← List.take_append_drop 24 (((((((((((words1.drop 24).drop 24).drop 24).drop 24).drop 24).drop 24).drop 24).drop 24).drop 24).drop 24).drop 24), List.all_append, w_t12, ← List.take_append_drop 24 ((((((((((((words1.drop 24).drop 24).drop 24).drop 24).drop 24).drop 24).drop 24).drop 24).drop 24).drop 24).drop 24).drop 24), List.all_append, w_t13, ← List.take_append_drop 24 (((((((((((((words1.drop 24).drop 24).drop 24).drop 24).drop 24).drop 24).drop 24).drop 24).drop 24).drop 24).drop 24).drop 24).drop 24), List.all_append, w_t14, ← List.take_append_drop 24 ((((((((((((((words1.drop 24).drop 24).drop 24).drop 24).drop 24).drop 24).drop 24).drop 24).drop 24).drop 24).drop 24).drop 24).drop 24).drop 24), List.all_append, w_t15, ← List.take_append_drop 24 (((((((((((((((words1.drop 24).drop 24).drop 24).drop 24).drop 24).drop 24).drop 24).drop 24).drop 24).drop 24).drop 24).drop 24).drop 24).drop 24).drop 24), List.all_append, w_t16, w_t17]
  rfl
set_option maxRecDepth 65536 in
theorem w_rest : rest_1_c.before args0 about1 = true := by decide +kernel
set_option maxRecDepth 65536 in
theorem w_case : (Jvm.Cond.and given_1 narrow_1).before args0 about1 = true := by decide +kernel
set_option maxRecDepth 65536 in
theorem w_consts : constsHeld consts_1 about1 := Jvm.Lit.constsHeldB_iff.mp (by decide +kernel)
theorem w_applies : (headSpec (Jvm.Cond.code x code maxLocals ret :: tables_1) room_1).applies x e0.platform about1 = true :=
  (Spec.applies_iff w_frames).mpr ⟨w_running, w_runnable, w_alone, w_named, w_hears, w_ripe, w_room, w_tables⟩
theorem atStart : AtStart classFile x code maxLocals ret World_1 tables_1 room_1 Calls_1 rest_1 Pre_1 launch0 p0 e0 about1 theMethod args0 below0 :=
  ⟨lists_1, trivial, launch0.admits_env _ _ _, launch0.least_env, fairChoices_fair.cas, fairChoices_fair.clock, w_frames, w_args, w_heap, w_applies, ⟨(by decide +kernel : framesKnown about1 = true), ⟨(by decide +kernel : tablesKnown about1 = true), ⟨w_consts, trivial⟩⟩⟩, w_rest, w_case⟩
end start1
theorem witness_1 : WitnessClaimed_1 := ⟨start1.p0, start1.e0, start1.about1, start1.theMethod, start1.args0, start1.below0, start1.atStart⟩
end Jvm.Pilot.@@N@@
